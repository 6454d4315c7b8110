import JvmDerived
import JvmDerived.Pilot.@@N@@Statement
import JvmDerived.Pilot.@@N@@Code
set_option linter.unusedVariables false
set_option linter.unusedSimpArgs false
namespace Jvm.Pilot.@@N@@
open Jvm Jvm.ClassFile Sem Op Lib Jvm.Free Jvm.Stand Jvm.LawKit Jvm.RoadKit Bundle Jvm.Pilot.@@N@@.Jvm.D
/-- the goal of a walk: from S the run comes to an end that P tells of -/
def Gl (p : Program) (e : Env) (below : List Frame) (P : Outcome → State → Prop) (S : State) : Prop := ∃ (t : State) (o : Outcome), Steps p.tables e below S t ∧ t.status = .running ∧ Ended t below o ∧ P o t
theorem Gl.st {p : Program} {e : Env} {below : List Frame} {P : Outcome → State → Prop} {S S' : State} (k : ∀ target, Steps p.tables e below S' target → Steps p.tables e below S target) (g : Gl p e below P S') : Gl p e below P S := by
  obtain ⟨t, o, h, r⟩ := g; exact ⟨t, o, k t h, r⟩
theorem Gl.tr {p : Program} {e : Env} {below : List Frame} {P : Outcome → State → Prop} {S S' : State} (k : Steps p.tables e below S S') (g : Gl p e below P S') : Gl p e below P S := by
  obtain ⟨t, o, h, r⟩ := g; exact ⟨t, o, k.trans h, r⟩
theorem Gl.gen {p : Program} {e : Env} {below : List Frame} {P : Outcome → State → Prop} {S : State} (h : ∀ P' : Outcome → State → Prop, (∀ o t, P o t → P' o t) → Gl p e below P' S) : Gl p e below P S := h P fun _ _ q => q
theorem own_cat {v : Value} (h : v.isRef = true) : v.category = 1 := by rcases ref_cases h with rfl | ⟨x, rfl⟩ <;> rfl
theorem own_narR {v : Value} (h : v.isRef = true) (C : String) : narrow (.object C) v = v := by rcases ref_cases h with rfl | ⟨x, rfl⟩ <;> rfl
theorem own_fitR {v : Value} (h : v.isRef = true) (C : String) : fits (.object C) v = true := by rcases ref_cases h with rfl | ⟨x, rfl⟩ <;> rfl
def own_v4 (f : Nat → Int32) : List Value := [.int (f 0), .int (f 1), .int (f 2), .int (f 3)]
def own_f4 (a b c d : Int32) : Nat → Int32
  | 0 => a
  | 1 => b
  | 2 => c
  | _ => d
theorem own_get4 (f : Nat → Int32) (i : Nat) (h : i < 4) : (own_v4 f).getD i (.int (0 : Int32)) = .int (f i) := by
  match i, h with
  | 0, _ => rfl
  | 1, _ => rfl
  | 2, _ => rfl
  | 3, _ => rfl
theorem own_set4 (f : Nat → Int32) (i : Nat) (h : i < 4) (x : Int32) : (own_v4 f).set i (.int x) = own_v4 (fun j => if j = i then x else f j) := by
  match i, h with
  | 0, _ => rfl
  | 1, _ => rfl
  | 2, _ => rfl
  | 3, _ => rfl
theorem own_v4_congr {f g : Nat → Int32} (h : ∀ j, f j = g j) : own_v4 f = own_v4 g := by rw [funext h]
theorem own_five {P : Nat → Prop} (h0 : P 0) (h1 : P 1) (h2 : P 2) (h3 : P 3) (h4 : P 4) (n : Nat) (h : n ≤ 4) : P n := by
  match n, h with
  | 0, _ => exact h0
  | 1, _ => exact h1
  | 2, _ => exact h2
  | 3, _ => exact h3
  | 4, _ => exact h4
theorem own_nn (i : Nat) (h : i ≤ 4) : (Int32.ofNat i).toNatClampNeg = i := (by decide +kernel : ∀ i : Fin 5, (Int32.ofNat i.val).toNatClampNeg = i.val) ⟨i, by omega⟩
theorem own_lt (i j : Nat) (hi : i ≤ 4) (hj : j ≤ 4) : Int32.ofNat i < Int32.ofNat j ↔ i < j := (by decide +kernel : ∀ i j : Fin 5, Int32.ofNat i.val < Int32.ofNat j.val ↔ i.val < j.val) ⟨i, by omega⟩ ⟨j, by omega⟩
theorem own_neg (i : Nat) (hi : i ≤ 4) : ¬ Int32.ofNat i < (0 : Int32) := (by decide +kernel : ∀ i : Fin 5, ¬ Int32.ofNat i.val < (0 : Int32)) ⟨i, by omega⟩
theorem own_lt4 (i : Nat) (hi : i < 4) : Int32.ofNat i < (4 : Int32) := (by decide +kernel : ∀ i : Fin 4, Int32.ofNat i.val < (4 : Int32)) ⟨i, hi⟩
theorem own_s (i : Nat) : Int32.ofNat i + (1 : Int32) = Int32.ofNat (i + 1) := by
  apply Int32.toBitVec_inj.mp
  rw [Int32.toBitVec_add]
  show BitVec.ofNat 32 i + BitVec.ofNat 32 1 = BitVec.ofNat 32 (i + 1)
  rw [← BitVec.ofNat_add]
theorem own_hl (h l : Nat) (hh : h ≤ 4) (hl : l ≤ 4) : Int32.ofNat h - (1 : Int32) < Int32.ofNat l ↔ h ≤ l := (by decide +kernel : ∀ h l : Fin 5, Int32.ofNat h.val - (1 : Int32) < Int32.ofNat l.val ↔ h.val ≤ l.val) ⟨h, by omega⟩ ⟨l, by omega⟩
theorem own_mid (l h : Nat) (hl : l < h) (hh : h ≤ 4) : (((Int32.ofNat l + (Int32.ofNat h - (1 : Int32))).toUInt32 >>> ((1 : Int32) &&& 31).toUInt32).toInt32) = Int32.ofNat ((l + h - 1) / 2) := by
  have t : ∀ l h : Fin 5, l.val < h.val → (((Int32.ofNat l.val + (Int32.ofNat h.val - (1 : Int32))).toUInt32 >>> ((1 : Int32) &&& 31).toUInt32).toInt32) = Int32.ofNat ((l.val + h.val - 1) / 2) := by decide +kernel
  exact t ⟨l, by omega⟩ ⟨h, by omega⟩ hl
theorem own_nf (k : Nat) (hk : k ≤ 4) : -(Int32.ofNat k + (1 : Int32)) < (0 : Int32) := (by decide +kernel : ∀ k : Fin 5, -(Int32.ofNat k.val + (1 : Int32)) < (0 : Int32)) ⟨k, by omega⟩
theorem own_back (k : Nat) (hk : k ≤ 4) : -(-(Int32.ofNat k + (1 : Int32))) - (1 : Int32) = Int32.ofNat k := (by decide +kernel : ∀ k : Fin 5, -(-(Int32.ofNat k.val + (1 : Int32))) - (1 : Int32) = Int32.ofNat k.val) ⟨k, by omega⟩
theorem own_from (f c : Nat) (hf : f ≤ 4) (hc : c ≤ 4) : Int32.ofNat c < (4 : Int32) - Int32.ofNat f ↔ c < 4 - f := (by decide +kernel : ∀ f c : Fin 5, Int32.ofNat c.val < (4 : Int32) - Int32.ofNat f.val ↔ c.val < 4 - f.val) ⟨f, by omega⟩ ⟨c, by omega⟩
theorem own_rem5 (x : Int32) : ∃ f : Nat, f ≤ 4 ∧ (x &&& (7 : Int32)) % (5 : Int32) = Int32.ofNat f := by
  have t : ∀ k : Fin 8, (Int32.ofNat k.val) % (5 : Int32) = Int32.ofNat (k.val % 5) := by decide +kernel
  have h : (x &&& (7 : Int32)).toBitVec.toNat < 8 := by
    simp only [Int32.toBitVec_and, BitVec.toNat_and]
    exact Nat.lt_succ_of_le Nat.and_le_right
  have e : (x &&& (7 : Int32)) = Int32.ofNat (x &&& (7 : Int32)).toBitVec.toNat := by
    apply Int32.toBitVec_inj.mp
    show _ = BitVec.ofNat 32 _
    rw [BitVec.ofNat_toNat]; simp
  refine ⟨(x &&& (7 : Int32)).toBitVec.toNat % 5, by omega, ?_⟩
  rw [e]
  have q := t ⟨_, h⟩
  rw [← e] at q ⊢
  exact q
/-- what the search hands back -/
def own_found (S : Nat → Int32) (lo hi : Nat) (key z : Int32) : Prop := (∃ k, lo ≤ k ∧ k < hi ∧ z = Int32.ofNat k ∧ S k = key) ∨ (∃ k, lo ≤ k ∧ k ≤ hi ∧ z = -(Int32.ofNat k + (1 : Int32)) ∧ (∀ j, lo ≤ j → j < k → S j < key) ∧ ∀ j, k ≤ j → j < hi → key < S j)
def own_up4 (S : Nat → Int32) : Prop := ∀ i j, i < j → j < 4 → S i < S j
theorem own_tr {a b c : Int32} (h1 : a < b) (h2 : b < c) : a < c := by rw [Int32.lt_iff_toInt_lt] at *; omega
theorem own_ir {a b : Int32} (h : a < b) : ¬ a = b := fun e => by rw [e, Int32.lt_iff_toInt_lt] at h; omega
theorem own_tri {a b : Int32} (h1 : ¬ a < b) (h2 : ¬ b < a) : a = b := by rw [Int32.lt_iff_toInt_lt] at *; apply Int32.toInt_inj.mp; omega
def own_in (S : Nat → Int32) (lo hi : Nat) (x : Int32) : Bool := (List.range 4).any fun j => decide (lo ≤ j) && (decide (j < hi) && decide (S j = x))
theorem own_in_iff {S : Nat → Int32} {lo hi : Nat} (hh : hi ≤ 4) {x : Int32} : own_in S lo hi x = true ↔ ∃ j, lo ≤ j ∧ j < hi ∧ S j = x := by
  simp only [own_in, List.any_eq_true, List.mem_range, Bool.and_eq_true, decide_eq_true_eq]
  constructor
  · rintro ⟨j, h1, h2, h3, h4⟩; exact ⟨j, h2, h3, h4⟩
  · rintro ⟨j, h2, h3, h4⟩; exact ⟨j, by omega, h2, h3, h4⟩
def own_com (W S : Nat → Int32) (f i lo hi : Nat) : List Int32 := ((List.range i).filter fun j => decide (f ≤ j) && own_in S lo hi (W j)).map W
theorem own_com_len (W S : Nat → Int32) (f i lo hi : Nat) : (own_com W S f i lo hi).length ≤ i := by
  unfold own_com
  rw [List.length_map]
  exact Nat.le_trans (List.length_filter_le _ _) (by simp)
theorem own_com_f (W S : Nat → Int32) (f lo hi : Nat) : own_com W S f f lo hi = [] := by
  unfold own_com
  rw [List.map_eq_nil_iff, List.filter_eq_nil_iff]
  intro j hj
  have : ¬ f ≤ j := by simp at hj; omega
  simp [this]
theorem own_com_in {W S : Nat → Int32} {f i lo hi : Nat} (h1 : f ≤ i) (h2 : own_in S lo hi (W i) = true) : own_com W S f (i + 1) lo hi = own_com W S f i lo hi ++ [W i] := by
  simp [own_com, List.range_succ, List.filter_append, h1, h2]
theorem own_com_out {W S : Nat → Int32} {f i lo hi : Nat} (h : ¬ (f ≤ i ∧ own_in S lo hi (W i) = true)) : own_com W S f (i + 1) lo hi = own_com W S f i lo hi := by
  have q : (decide (f ≤ i) && own_in S lo hi (W i)) = false := by
    by_cases h1 : f ≤ i
    · cases h2 : own_in S lo hi (W i)
      · simp
      · exact absurd ⟨h1, h2⟩ h
    · simp [h1]
  simp [own_com, List.range_succ, List.filter_append, q]
def own_into (C : List Int32) (g : Nat → Int32) (j : Nat) : Int32 := if j < C.length then C.getD j 0 else g j
theorem own_into_nil (g : Nat → Int32) : own_into [] g = g := by funext j; simp [own_into]
theorem own_into_snoc (C : List Int32) (g : Nat → Int32) (x : Int32) : own_v4 (fun j => if j = C.length then x else own_into C g j) = own_v4 (own_into (C ++ [x]) g) := by
  refine own_v4_congr fun j => ?_
  by_cases h : j = C.length
  · subst h; simp [own_into]
  · by_cases h2 : j < C.length
    · have h3 : j < C.length + 1 := by omega
      simp [own_into, h, h2, h3, List.getD_eq_getElem?_getD, List.getElem?_append_left h2]
    · have h3 : ¬ j < C.length + 1 := by omega
      simp [own_into, h, h2, h3]
theorem own_ext : ∀ (l1 l2 : List Int32), l1.Pairwise (· < ·) → l2.Pairwise (· < ·) → (∀ x, x ∈ l1 ↔ x ∈ l2) → l1 = l2
  | [], [], _, _, _ => rfl
  | [], b :: l2, _, _, h => absurd ((h b).mpr (List.mem_cons_self ..)) (by simp)
  | a :: l1, [], _, _, h => absurd ((h a).mp (List.mem_cons_self ..)) (by simp)
  | a :: l1, b :: l2, h1, h2, h => by
    rw [List.pairwise_cons] at h1 h2
    have hab : a = b := by
      rcases List.mem_cons.mp ((h a).mp (List.mem_cons_self ..)) with q | q
      · exact q
      · rcases List.mem_cons.mp ((h b).mpr (List.mem_cons_self ..)) with r | r
        · exact r.symm
        · exact absurd (own_tr (h2.1 a q) (h1.1 b r)) (by rw [Int32.lt_iff_toInt_lt]; omega)
    subst hab
    rw [own_ext l1 l2 h1.2 h2.2 fun x => ?_]
    have := h x
    simp only [List.mem_cons] at this
    constructor
    · intro q
      rcases this.mp (Or.inr q) with r | r
      · exact absurd r.symm (own_ir (h1.1 x q))
      · exact r
    · intro q
      rcases this.mpr (Or.inr q) with r | r
      · exact absurd r.symm (own_ir (h2.1 x q))
      · exact r
theorem own_com_sorted {W S : Nat → Int32} (hW : own_up4 W) {f i lo hi : Nat} (hi4 : i ≤ 4) : (own_com W S f i lo hi).Pairwise (· < ·) := by
  unfold own_com
  rw [List.pairwise_map]
  have h := (List.pairwise_lt_range (n := i)).filter (fun j => decide (f ≤ j) && own_in S lo hi (W j))
  refine List.Pairwise.imp_of_mem ?_ h
  intro a b ha hb hab
  have : b < i := by have := (List.mem_filter.mp hb).1; simpa using this
  exact hW a b hab (by omega)
theorem own_com_mem {W S : Nat → Int32} {f i lo hi : Nat} (hh : hi ≤ 4) {x : Int32} : x ∈ own_com W S f i lo hi ↔ (∃ k, f ≤ k ∧ k < i ∧ W k = x) ∧ ∃ j, lo ≤ j ∧ j < hi ∧ S j = x := by
  simp only [own_com, List.mem_map, List.mem_filter, List.mem_range, Bool.and_eq_true, decide_eq_true_eq]
  constructor
  · rintro ⟨k, ⟨h1, h2, h3⟩, rfl⟩; exact ⟨⟨k, h2, h1, rfl⟩, (own_in_iff hh).mp h3⟩
  · rintro ⟨⟨k, h1, h2, rfl⟩, h3⟩; exact ⟨k, ⟨h2, h1, (own_in_iff hh).mpr h3⟩, rfl⟩
theorem own_both {W S : Nat → Int32} (hW : own_up4 W) (hS : own_up4 S) {f c : Nat} (hc : c ≤ 4) : own_com S W 0 c f 4 = own_com W S f 4 0 c :=
  own_ext _ _ (own_com_sorted hS hc) (own_com_sorted hW (Nat.le_refl _)) fun x => by
    rw [own_com_mem (Nat.le_refl _), own_com_mem hc]; exact And.comm
theorem own_rise {p1 b r0 r1 r2 r3 q1 q2 q3 q4 : Int32} (hb : ((2147483607 : Int32) < p1 ∧ b = (2147483607 : Int32)) ∨ (¬ (2147483607 : Int32) < p1 ∧ b = p1))
    (h0 : r0 = (b + (q1 &&& (3 : Int32)))) (h1 : r1 = ((r0 + (1 : Int32)) + (q2 &&& (3 : Int32)))) (h2 : r2 = ((r1 + (1 : Int32)) + (q3 &&& (3 : Int32)))) (h3 : r3 = ((r2 + (1 : Int32)) + (q4 &&& (3 : Int32)))) : own_up4 (own_f4 r0 r1 r2 r3) := by
  have e40 : (2147483607 : Int32).toInt = 2147483607 := rfl
  have e1 : (1 : Int32).toInt = 1 := rfl
  have e3 : (3 : Int32).toInt = 3 := rfl
  have hb' : b.toInt ≤ 2147483607 := by
    rcases hb with ⟨-, rfl⟩ | ⟨q, rfl⟩
    · omega
    · rw [Int32.lt_iff_toInt_lt] at q; omega
  have m1 := c_and q1 (3 : Int32) (by omega); have m2 := c_and q2 (3 : Int32) (by omega); have m3 := c_and q3 (3 : Int32) (by omega); have m4 := c_and q4 (3 : Int32) (by omega)
  have a0 := c_iadd b (q1 &&& (3 : Int32)); rw [← h0] at a0
  have a1 := c_iadd r0 (1 : Int32); have a1' := c_iadd (r0 + (1 : Int32)) (q2 &&& (3 : Int32)); rw [← h1] at a1'
  have a2 := c_iadd r1 (1 : Int32); have a2' := c_iadd (r1 + (1 : Int32)) (q3 &&& (3 : Int32)); rw [← h2] at a2'
  have a3 := c_iadd r2 (1 : Int32); have a3' := c_iadd (r2 + (1 : Int32)) (q4 &&& (3 : Int32)); rw [← h3] at a3'
  have g := rng32 b; have g0 := rng32 r0; have g1 := rng32 r1; have g2 := rng32 r2; have g3 := rng32 r3
  have k1 := rng32 (r0 + (1 : Int32)); have k2 := rng32 (r1 + (1 : Int32)); have k3 := rng32 (r2 + (1 : Int32))
  have s0 : r0.toInt = b.toInt + (q1 &&& (3 : Int32)).toInt := by omega
  have s1' : (r0 + (1 : Int32)).toInt = r0.toInt + 1 := by omega
  have s1 : r1.toInt = r0.toInt + 1 + (q2 &&& (3 : Int32)).toInt := by omega
  have s2' : (r1 + (1 : Int32)).toInt = r1.toInt + 1 := by omega
  have s2 : r2.toInt = r1.toInt + 1 + (q3 &&& (3 : Int32)).toInt := by omega
  have s3' : (r2 + (1 : Int32)).toInt = r2.toInt + 1 := by omega
  have s3 : r3.toInt = r2.toInt + 1 + (q4 &&& (3 : Int32)).toInt := by omega
  intro i j hij hj
  have hjs : (i = 0 ∧ j = 1) ∨ (i = 0 ∧ j = 2) ∨ (i = 0 ∧ j = 3) ∨ (i = 1 ∧ j = 2) ∨ (i = 1 ∧ j = 3) ∨ (i = 2 ∧ j = 3) := by omega
  rcases hjs with ⟨rfl, rfl⟩ | ⟨rfl, rfl⟩ | ⟨rfl, rfl⟩ | ⟨rfl, rfl⟩ | ⟨rfl, rfl⟩ | ⟨rfl, rfl⟩
  · show r0 < r1; rw [Int32.lt_iff_toInt_lt]; omega
  · show r0 < r2; rw [Int32.lt_iff_toInt_lt]; omega
  · show r0 < r3; rw [Int32.lt_iff_toInt_lt]; omega
  · show r1 < r2; rw [Int32.lt_iff_toInt_lt]; omega
  · show r1 < r3; rw [Int32.lt_iff_toInt_lt]; omega
  · show r2 < r3; rw [Int32.lt_iff_toInt_lt]; omega
theorem d20_0 : decode jdk_29_method_69_code 0 = .ok (.iload_n 0, 1) := by decide +kernel
theorem d20_1 : decode jdk_29_method_69_code 1 = .ok (.iload_n 1, 1) := by decide +kernel
theorem d20_2 : decode jdk_29_method_69_code 2 = .ok (.if_icmp .gt 7, 3) := by decide +kernel
theorem d20_5 : decode jdk_29_method_69_code 5 = .ok (.iload_n 0, 1) := by decide +kernel
theorem d20_6 : decode jdk_29_method_69_code 6 = .ok (.goto 4, 3) := by decide +kernel
theorem d20_9 : decode jdk_29_method_69_code 9 = .ok (.iload_n 1, 1) := by decide +kernel
theorem d20_10 : decode jdk_29_method_69_code 10 = .ok (.ireturn, 1) := by decide +kernel
theorem d21_0 : decode jdk_65_method_30_code 0 = .ok (.iload_n 1, 1) := by decide +kernel
theorem d21_1 : decode jdk_65_method_30_code 1 = .ok (.iload_n 2, 1) := by decide +kernel
theorem d21_2 : decode jdk_65_method_30_code 2 = .ok (.if_icmp .le 44, 3) := by decide +kernel
theorem d21_46 : decode jdk_65_method_30_code 46 = .ok (.iload_n 1, 1) := by decide +kernel
theorem d21_47 : decode jdk_65_method_30_code 47 = .ok (.ifCond .ge 12, 3) := by decide +kernel
theorem d21_59 : decode jdk_65_method_30_code 59 = .ok (.iload_n 2, 1) := by decide +kernel
theorem d21_60 : decode jdk_65_method_30_code 60 = .ok (.iload_n 0, 1) := by decide +kernel
theorem d21_61 : decode jdk_65_method_30_code 61 = .ok (.if_icmp .le 12, 3) := by decide +kernel
theorem d21_73 : decode jdk_65_method_30_code 73 = .ok (.return_, 1) := by decide +kernel
theorem d22_0 : decode jdk_65_method_59_code 0 = .ok (.iload_n 1, 1) := by decide +kernel
theorem d22_1 : decode jdk_65_method_59_code 1 = .ok (.istore 4, 2) := by decide +kernel
theorem d22_3 : decode jdk_65_method_59_code 3 = .ok (.iload_n 2, 1) := by decide +kernel
theorem d22_4 : decode jdk_65_method_59_code 4 = .ok (.iconst 1, 1) := by decide +kernel
theorem d22_5 : decode jdk_65_method_59_code 5 = .ok (.isub, 1) := by decide +kernel
theorem d22_6 : decode jdk_65_method_59_code 6 = .ok (.istore 5, 2) := by decide +kernel
theorem d22_8 : decode jdk_65_method_59_code 8 = .ok (.iload 4, 2) := by decide +kernel
theorem d22_10 : decode jdk_65_method_59_code 10 = .ok (.iload 5, 2) := by decide +kernel
theorem d22_12 : decode jdk_65_method_59_code 12 = .ok (.if_icmp .gt 54, 3) := by decide +kernel
theorem d22_15 : decode jdk_65_method_59_code 15 = .ok (.iload 4, 2) := by decide +kernel
theorem d22_17 : decode jdk_65_method_59_code 17 = .ok (.iload 5, 2) := by decide +kernel
theorem d22_19 : decode jdk_65_method_59_code 19 = .ok (.iadd, 1) := by decide +kernel
theorem d22_20 : decode jdk_65_method_59_code 20 = .ok (.iconst 1, 1) := by decide +kernel
theorem d22_21 : decode jdk_65_method_59_code 21 = .ok (.iushr, 1) := by decide +kernel
theorem d22_22 : decode jdk_65_method_59_code 22 = .ok (.istore 6, 2) := by decide +kernel
theorem d22_24 : decode jdk_65_method_59_code 24 = .ok (.aload_n 0, 1) := by decide +kernel
theorem d22_25 : decode jdk_65_method_59_code 25 = .ok (.iload 6, 2) := by decide +kernel
theorem d22_27 : decode jdk_65_method_59_code 27 = .ok (.iaload, 1) := by decide +kernel
theorem d22_28 : decode jdk_65_method_59_code 28 = .ok (.istore 7, 2) := by decide +kernel
theorem d22_30 : decode jdk_65_method_59_code 30 = .ok (.iload 7, 2) := by decide +kernel
theorem d22_32 : decode jdk_65_method_59_code 32 = .ok (.iload_n 3, 1) := by decide +kernel
theorem d22_33 : decode jdk_65_method_59_code 33 = .ok (.if_icmp .ge 12, 3) := by decide +kernel
theorem d22_36 : decode jdk_65_method_59_code 36 = .ok (.iload 6, 2) := by decide +kernel
theorem d22_38 : decode jdk_65_method_59_code 38 = .ok (.iconst 1, 1) := by decide +kernel
theorem d22_39 : decode jdk_65_method_59_code 39 = .ok (.iadd, 1) := by decide +kernel
theorem d22_40 : decode jdk_65_method_59_code 40 = .ok (.istore 4, 2) := by decide +kernel
theorem d22_42 : decode jdk_65_method_59_code 42 = .ok (.goto 21, 3) := by decide +kernel
theorem d22_45 : decode jdk_65_method_59_code 45 = .ok (.iload 7, 2) := by decide +kernel
theorem d22_47 : decode jdk_65_method_59_code 47 = .ok (.iload_n 3, 1) := by decide +kernel
theorem d22_48 : decode jdk_65_method_59_code 48 = .ok (.if_icmp .le 12, 3) := by decide +kernel
theorem d22_51 : decode jdk_65_method_59_code 51 = .ok (.iload 6, 2) := by decide +kernel
theorem d22_53 : decode jdk_65_method_59_code 53 = .ok (.iconst 1, 1) := by decide +kernel
theorem d22_54 : decode jdk_65_method_59_code 54 = .ok (.isub, 1) := by decide +kernel
theorem d22_55 : decode jdk_65_method_59_code 55 = .ok (.istore 5, 2) := by decide +kernel
theorem d22_57 : decode jdk_65_method_59_code 57 = .ok (.goto 6, 3) := by decide +kernel
theorem d22_60 : decode jdk_65_method_59_code 60 = .ok (.iload 6, 2) := by decide +kernel
theorem d22_62 : decode jdk_65_method_59_code 62 = .ok (.ireturn, 1) := by decide +kernel
theorem d22_63 : decode jdk_65_method_59_code 63 = .ok (.goto (-55), 3) := by decide +kernel
theorem d22_66 : decode jdk_65_method_59_code 66 = .ok (.iload 4, 2) := by decide +kernel
theorem d22_68 : decode jdk_65_method_59_code 68 = .ok (.iconst 1, 1) := by decide +kernel
theorem d22_69 : decode jdk_65_method_59_code 69 = .ok (.iadd, 1) := by decide +kernel
theorem d22_70 : decode jdk_65_method_59_code 70 = .ok (.ineg, 1) := by decide +kernel
theorem d22_71 : decode jdk_65_method_59_code 71 = .ok (.ireturn, 1) := by decide +kernel
theorem d23_0 : decode jdk_65_method_58_code 0 = .ok (.aload_n 0, 1) := by decide +kernel
theorem d23_1 : decode jdk_65_method_58_code 1 = .ok (.arraylength, 1) := by decide +kernel
theorem d23_2 : decode jdk_65_method_58_code 2 = .ok (.iload_n 1, 1) := by decide +kernel
theorem d23_3 : decode jdk_65_method_58_code 3 = .ok (.iload_n 2, 1) := by decide +kernel
theorem d23_4 : decode jdk_65_method_58_code 4 = .ok (.invokestatic 13, 3) := by decide +kernel
theorem d23_7 : decode jdk_65_method_58_code 7 = .ok (.aload_n 0, 1) := by decide +kernel
theorem d23_8 : decode jdk_65_method_58_code 8 = .ok (.iload_n 1, 1) := by decide +kernel
theorem d23_9 : decode jdk_65_method_58_code 9 = .ok (.iload_n 2, 1) := by decide +kernel
theorem d23_10 : decode jdk_65_method_58_code 10 = .ok (.iload_n 3, 1) := by decide +kernel
theorem d23_11 : decode jdk_65_method_58_code 11 = .ok (.invokestatic 209, 3) := by decide +kernel
theorem d23_14 : decode jdk_65_method_58_code 14 = .ok (.ireturn, 1) := by decide +kernel
theorem d24_0 : decode prog_23_method_3_code 0 = .ok (.iconst 0, 1) := by decide +kernel
theorem d24_1 : decode prog_23_method_3_code 1 = .ok (.istore 7, 2) := by decide +kernel
theorem d24_3 : decode prog_23_method_3_code 3 = .ok (.iload_n 1, 1) := by decide +kernel
theorem d24_4 : decode prog_23_method_3_code 4 = .ok (.istore 8, 2) := by decide +kernel
theorem d24_6 : decode prog_23_method_3_code 6 = .ok (.iload 8, 2) := by decide +kernel
theorem d24_8 : decode prog_23_method_3_code 8 = .ok (.iload_n 2, 1) := by decide +kernel
theorem d24_9 : decode prog_23_method_3_code 9 = .ok (.if_icmp .ge 59, 3) := by decide +kernel
theorem d24_12 : decode prog_23_method_3_code 12 = .ok (.aload_n 3, 1) := by decide +kernel
theorem d24_13 : decode prog_23_method_3_code 13 = .ok (.iload 4, 2) := by decide +kernel
theorem d24_15 : decode prog_23_method_3_code 15 = .ok (.iload 5, 2) := by decide +kernel
theorem d24_17 : decode prog_23_method_3_code 17 = .ok (.aload_n 0, 1) := by decide +kernel
theorem d24_18 : decode prog_23_method_3_code 18 = .ok (.iload 8, 2) := by decide +kernel
theorem d24_20 : decode prog_23_method_3_code 20 = .ok (.iaload, 1) := by decide +kernel
theorem d24_21 : decode prog_23_method_3_code 21 = .ok (.invokestatic 13, 3) := by decide +kernel
theorem d24_24 : decode prog_23_method_3_code 24 = .ok (.istore 9, 2) := by decide +kernel
theorem d24_26 : decode prog_23_method_3_code 26 = .ok (.iload 9, 2) := by decide +kernel
theorem d24_28 : decode prog_23_method_3_code 28 = .ok (.ifCond .lt 15, 3) := by decide +kernel
theorem d24_31 : decode prog_23_method_3_code 31 = .ok (.aload 6, 2) := by decide +kernel
theorem d24_33 : decode prog_23_method_3_code 33 = .ok (.iload 7, 2) := by decide +kernel
theorem d24_35 : decode prog_23_method_3_code 35 = .ok (.iinc 7 1, 3) := by decide +kernel
theorem d24_38 : decode prog_23_method_3_code 38 = .ok (.aload_n 0, 1) := by decide +kernel
theorem d24_39 : decode prog_23_method_3_code 39 = .ok (.iload 8, 2) := by decide +kernel
theorem d24_41 : decode prog_23_method_3_code 41 = .ok (.iaload, 1) := by decide +kernel
theorem d24_42 : decode prog_23_method_3_code 42 = .ok (.iastore, 1) := by decide +kernel
theorem d24_43 : decode prog_23_method_3_code 43 = .ok (.iload 9, 2) := by decide +kernel
theorem d24_45 : decode prog_23_method_3_code 45 = .ok (.ifCond .lt 10, 3) := by decide +kernel
theorem d24_48 : decode prog_23_method_3_code 48 = .ok (.iload 9, 2) := by decide +kernel
theorem d24_50 : decode prog_23_method_3_code 50 = .ok (.iconst 1, 1) := by decide +kernel
theorem d24_51 : decode prog_23_method_3_code 51 = .ok (.iadd, 1) := by decide +kernel
theorem d24_52 : decode prog_23_method_3_code 52 = .ok (.goto 8, 3) := by decide +kernel
theorem d24_55 : decode prog_23_method_3_code 55 = .ok (.iload 9, 2) := by decide +kernel
theorem d24_57 : decode prog_23_method_3_code 57 = .ok (.ineg, 1) := by decide +kernel
theorem d24_58 : decode prog_23_method_3_code 58 = .ok (.iconst 1, 1) := by decide +kernel
theorem d24_59 : decode prog_23_method_3_code 59 = .ok (.isub, 1) := by decide +kernel
theorem d24_60 : decode prog_23_method_3_code 60 = .ok (.istore 4, 2) := by decide +kernel
theorem d24_62 : decode prog_23_method_3_code 62 = .ok (.iinc 8 1, 3) := by decide +kernel
theorem d24_65 : decode prog_23_method_3_code 65 = .ok (.goto (-59), 3) := by decide +kernel
theorem d24_68 : decode prog_23_method_3_code 68 = .ok (.iload 7, 2) := by decide +kernel
theorem d24_70 : decode prog_23_method_3_code 70 = .ok (.ireturn, 1) := by decide +kernel
theorem d25_0 : decode prog_23_method_2_code 0 = .ok (.aload_n 0, 1) := by decide +kernel
theorem d25_1 : decode prog_23_method_2_code 1 = .ok (.arraylength, 1) := by decide +kernel
theorem d25_2 : decode prog_23_method_2_code 2 = .ok (.iload_n 1, 1) := by decide +kernel
theorem d25_3 : decode prog_23_method_2_code 3 = .ok (.isub, 1) := by decide +kernel
theorem d25_4 : decode prog_23_method_2_code 4 = .ok (.iload_n 3, 1) := by decide +kernel
theorem d25_5 : decode prog_23_method_2_code 5 = .ok (.if_icmp .gt 18, 3) := by decide +kernel
theorem d25_8 : decode prog_23_method_2_code 8 = .ok (.aload_n 0, 1) := by decide +kernel
theorem d25_9 : decode prog_23_method_2_code 9 = .ok (.iload_n 1, 1) := by decide +kernel
theorem d25_10 : decode prog_23_method_2_code 10 = .ok (.aload_n 0, 1) := by decide +kernel
theorem d25_11 : decode prog_23_method_2_code 11 = .ok (.arraylength, 1) := by decide +kernel
theorem d25_12 : decode prog_23_method_2_code 12 = .ok (.aload_n 2, 1) := by decide +kernel
theorem d25_13 : decode prog_23_method_2_code 13 = .ok (.iconst 0, 1) := by decide +kernel
theorem d25_14 : decode prog_23_method_2_code 14 = .ok (.iload_n 3, 1) := by decide +kernel
theorem d25_15 : decode prog_23_method_2_code 15 = .ok (.aload 4, 2) := by decide +kernel
theorem d25_17 : decode prog_23_method_2_code 17 = .ok (.invokestatic 7, 3) := by decide +kernel
theorem d25_20 : decode prog_23_method_2_code 20 = .ok (.goto 15, 3) := by decide +kernel
theorem d25_23 : decode prog_23_method_2_code 23 = .ok (.aload_n 2, 1) := by decide +kernel
theorem d25_24 : decode prog_23_method_2_code 24 = .ok (.iconst 0, 1) := by decide +kernel
theorem d25_25 : decode prog_23_method_2_code 25 = .ok (.iload_n 3, 1) := by decide +kernel
theorem d25_26 : decode prog_23_method_2_code 26 = .ok (.aload_n 0, 1) := by decide +kernel
theorem d25_27 : decode prog_23_method_2_code 27 = .ok (.iload_n 1, 1) := by decide +kernel
theorem d25_28 : decode prog_23_method_2_code 28 = .ok (.aload_n 0, 1) := by decide +kernel
theorem d25_29 : decode prog_23_method_2_code 29 = .ok (.arraylength, 1) := by decide +kernel
theorem d25_30 : decode prog_23_method_2_code 30 = .ok (.aload 4, 2) := by decide +kernel
theorem d25_32 : decode prog_23_method_2_code 32 = .ok (.invokestatic 7, 3) := by decide +kernel
theorem d25_35 : decode prog_23_method_2_code 35 = .ok (.ireturn, 1) := by decide +kernel
theorem d26_0 : decode method_2_code 0 = .ok (.iload_n 1, 1) := by decide +kernel
theorem d26_1 : decode method_2_code 1 = .ok (.ifCond .le 10, 3) := by decide +kernel
theorem d26_4 : decode method_2_code 4 = .ok (.aload_n 0, 1) := by decide +kernel
theorem d26_5 : decode method_2_code 5 = .ok (.iconst 0, 1) := by decide +kernel
theorem d26_6 : decode method_2_code 6 = .ok (.iaload, 1) := by decide +kernel
theorem d26_7 : decode method_2_code 7 = .ok (.iload_n 2, 1) := by decide +kernel
theorem d26_8 : decode method_2_code 8 = .ok (.if_icmp .eq 39, 3) := by decide +kernel
theorem d26_11 : decode method_2_code 11 = .ok (.iload_n 1, 1) := by decide +kernel
theorem d26_12 : decode method_2_code 12 = .ok (.iconst 1, 1) := by decide +kernel
theorem d26_13 : decode method_2_code 13 = .ok (.if_icmp .le 10, 3) := by decide +kernel
theorem d26_16 : decode method_2_code 16 = .ok (.aload_n 0, 1) := by decide +kernel
theorem d26_17 : decode method_2_code 17 = .ok (.iconst 1, 1) := by decide +kernel
theorem d26_18 : decode method_2_code 18 = .ok (.iaload, 1) := by decide +kernel
theorem d26_19 : decode method_2_code 19 = .ok (.iload_n 2, 1) := by decide +kernel
theorem d26_20 : decode method_2_code 20 = .ok (.if_icmp .eq 27, 3) := by decide +kernel
theorem d26_23 : decode method_2_code 23 = .ok (.iload_n 1, 1) := by decide +kernel
theorem d26_24 : decode method_2_code 24 = .ok (.iconst 2, 1) := by decide +kernel
theorem d26_25 : decode method_2_code 25 = .ok (.if_icmp .le 10, 3) := by decide +kernel
theorem d26_28 : decode method_2_code 28 = .ok (.aload_n 0, 1) := by decide +kernel
theorem d26_29 : decode method_2_code 29 = .ok (.iconst 2, 1) := by decide +kernel
theorem d26_30 : decode method_2_code 30 = .ok (.iaload, 1) := by decide +kernel
theorem d26_31 : decode method_2_code 31 = .ok (.iload_n 2, 1) := by decide +kernel
theorem d26_32 : decode method_2_code 32 = .ok (.if_icmp .eq 15, 3) := by decide +kernel
theorem d26_35 : decode method_2_code 35 = .ok (.iload_n 1, 1) := by decide +kernel
theorem d26_36 : decode method_2_code 36 = .ok (.iconst 3, 1) := by decide +kernel
theorem d26_37 : decode method_2_code 37 = .ok (.if_icmp .le 14, 3) := by decide +kernel
theorem d26_40 : decode method_2_code 40 = .ok (.aload_n 0, 1) := by decide +kernel
theorem d26_41 : decode method_2_code 41 = .ok (.iconst 3, 1) := by decide +kernel
theorem d26_42 : decode method_2_code 42 = .ok (.iaload, 1) := by decide +kernel
theorem d26_43 : decode method_2_code 43 = .ok (.iload_n 2, 1) := by decide +kernel
theorem d26_44 : decode method_2_code 44 = .ok (.if_icmp .ne 7, 3) := by decide +kernel
theorem d26_47 : decode method_2_code 47 = .ok (.iconst 1, 1) := by decide +kernel
theorem d26_48 : decode method_2_code 48 = .ok (.goto 4, 3) := by decide +kernel
theorem d26_51 : decode method_2_code 51 = .ok (.iconst 0, 1) := by decide +kernel
theorem d26_52 : decode method_2_code 52 = .ok (.ireturn, 1) := by decide +kernel
theorem d27_0 : decode method_3_code 0 = .ok (.iload_n 3, 1) := by decide +kernel
theorem d27_1 : decode method_3_code 1 = .ok (.iload_n 2, 1) := by decide +kernel
theorem d27_2 : decode method_3_code 2 = .ok (.if_icmp .ge 20, 3) := by decide +kernel
theorem d27_5 : decode method_3_code 5 = .ok (.aload_n 0, 1) := by decide +kernel
theorem d27_6 : decode method_3_code 6 = .ok (.iload_n 3, 1) := by decide +kernel
theorem d27_7 : decode method_3_code 7 = .ok (.iaload, 1) := by decide +kernel
theorem d27_8 : decode method_3_code 8 = .ok (.aload_n 1, 1) := by decide +kernel
theorem d27_9 : decode method_3_code 9 = .ok (.iload_n 3, 1) := by decide +kernel
theorem d27_10 : decode method_3_code 10 = .ok (.iaload, 1) := by decide +kernel
theorem d27_11 : decode method_3_code 11 = .ok (.if_icmp .ne 7, 3) := by decide +kernel
theorem d27_14 : decode method_3_code 14 = .ok (.iconst 1, 1) := by decide +kernel
theorem d27_15 : decode method_3_code 15 = .ok (.goto 20, 3) := by decide +kernel
theorem d27_22 : decode method_3_code 22 = .ok (.aload_n 0, 1) := by decide +kernel
theorem d27_23 : decode method_3_code 23 = .ok (.iload_n 3, 1) := by decide +kernel
theorem d27_24 : decode method_3_code 24 = .ok (.iaload, 1) := by decide +kernel
theorem d27_25 : decode method_3_code 25 = .ok (.iload 4, 2) := by decide +kernel
theorem d27_27 : decode method_3_code 27 = .ok (.if_icmp .ne 7, 3) := by decide +kernel
theorem d27_30 : decode method_3_code 30 = .ok (.iconst 1, 1) := by decide +kernel
theorem d27_31 : decode method_3_code 31 = .ok (.goto 4, 3) := by decide +kernel
theorem d27_35 : decode method_3_code 35 = .ok (.ireturn, 1) := by decide +kernel
theorem pd_0 : parseMethodDescriptor "(III)V" = some ⟨[.int, .int, .int], none⟩ := by decide +kernel
theorem pd_1 : parseMethodDescriptor "([IIII)I" = some ⟨[(.array .int), .int, .int, .int], some .int⟩ := by decide +kernel
theorem pd_2 : parseMethodDescriptor "([III[III[I)I" = some ⟨[(.array .int), .int, .int, (.array .int), .int, .int, (.array .int)], some .int⟩ := by decide +kernel
theorem pd_3 : parseMethodDescriptor "(II)I" = some ⟨[.int, .int], some .int⟩ := by decide +kernel
theorem pd_4 : parseMethodDescriptor "([II[II[I)I" = some ⟨[(.array .int), .int, (.array .int), .int, (.array .int)], some .int⟩ := by decide +kernel
theorem pd_5 : parseMethodDescriptor "([I[IIII)Z" = some ⟨[(.array .int), (.array .int), .int, .int, .int], some .boolean⟩ := by decide +kernel
theorem pd_6 : parseMethodDescriptor "([III)Z" = some ⟨[(.array .int), .int, .int], some .boolean⟩ := by decide +kernel
theorem ef_20 (m : MethodId) (x0 : Int32) (x1 : Int32) : entryFrame m #[(.int x0), (.int x1)] 2 = mkF m 0 #[.val (.int x0), .val (.int x1)] [] := by first | (simp [entryFrame, mkF, argsToLocals, Value.category]; done) | rfl
def Q20 (Z : State) (p1 : Int32) (p2 : Int32) (z : Int32) (h0 : Heap) (n0 : Nat) (v : Option Value) (h : Heap) (L : List Loc) : Prop := v = some (.int z) ∧ Fr n0 L ∧ h = h0
set_option maxRecDepth 65536 in
set_option maxHeartbeats 40000000 in
theorem rm20 (l : Launch) (Z : State) (a0 : Array Value) (hw : ∀ d ∈ tables_1, d.before a0 Z = true) (ws : List Jvm.Cond) (p1 : Int32) (p2 : Int32) (z : Int32) (h0 : Heap) (n0 : Nat) (Z0 : n0 ≤ h0.size) (hz : (p2 < p1 ∧ z = p2) ∨ (¬ p2 < p1 ∧ z = p1)) :
    MetFree l (⟨"java/lang/Math", "min", "(II)I"⟩ : MethodName) (head1 (Jvm.Cond.code (⟨"java/lang/Math", "min", "(II)I"⟩ : MethodName) jdk_29_method_69_code 2 (some .int) :: ws) ({ frames := 0, cells := 0, slots := 0, locals := 0 } : Room)) (fun a U => a = #[(.int p1), (.int p2)] ∧ Z.Warmed39 U.vm ∧ U.heap = h0) (fun _ _ _ _ _ => True) (fun _ U o U' => ∃ v L, o = .returned v ∧ Q20 Z p1 p2 z h0 n0 v U'.heap L ∧ FrameEnd U o U' L ({ frames := 0, cells := 0, slots := 0, locals := 0 } : Room).cells ({ frames := 0, cells := 0, slots := 0, locals := 0 } : Room).slots) := by
  refine MetFree.of_bodySF (Jvm.Free.JP.mathPlain rfl (by decide +kernel)) hisR ?_
  intro p e s m args below meth c s₁ Bd hml0 hP hK
  obtain ⟨rfl, hZ, hh⟩ := hP
  have hx := Bd.exec
  have hby := Bd.bytes
  have hml : c.maxLocals = 2 := hml0
  have hown : s.vm.findClass "java/lang/Math" = some m.cls := findClass_of_methodNamed Bd.named
  have hnm := (name_of_methodNamed Bd.named Bd.method).1
  have X0 : Stand p l e ({ frames := 0, cells := 0, slots := 0, locals := 0 } : Room) s m #[(.int p1), (.int p2)] below meth c s₁ [] 0 0 := Stand.of_body Bd
  have e0 : s₁.heap = h0 := by rw [← hh, Bd.state]; rfl
  have N0 := Fr.nil n0
  refine Gl.gen fun P hPost => ?_
  refine Gl.st (fun _ k => castTop (ef_20 m p1 p2 ) k) ?_
  show Gl p e below P (s₁.setTop (mkF m 0 #[.val (.int p1), .val (.int p2)] []))
  refine Gl.st (fun _ k => XS.iloadN X0.here hx rfl (hb hby d20_0) rfl k) ?_
  show Gl p e below P (s₁.setTop (mkF m 1 #[.val (.int p1), .val (.int p2)] [(.int p1)]))
  refine Gl.st (fun _ k => XS.iloadN X0.here hx rfl (hb hby d20_1) rfl k) ?_
  show Gl p e below P (s₁.setTop (mkF m 2 #[.val (.int p1), .val (.int p2)] [(.int p2), (.int p1)]))
  rcases hz with ⟨hq, hz⟩ | ⟨hq, hz⟩
  · refine Gl.st (fun _ k => XS.icmpYes X0.here hx rfl (pc0 := 2) (pc' := 9) rfl (hb hby d20_2) rfl (tlt (hq : p2 < p1)).2.2.1 (by decide) (by decide) k) ?_
    show Gl p e below P (s₁.setTop (mkF m 9 #[.val (.int p1), .val (.int p2)] []))
    refine Gl.st (fun _ k => XS.iloadN X0.here hx rfl (hb hby d20_9) rfl k) ?_
    show Gl p e below P (s₁.setTop (mkF m 10 #[.val (.int p1), .val (.int p2)] [(.int p2)]))
    obtain ⟨fs, hr, hrun, hended, hW, hsame⟩ := X0.leave (v := some (.int p2)) (fun h => by rw [Bd.returns] at h; cases h)
    refine ⟨_, _, retOut X0 hx Bd.returns rfl (Or.inl ⟨rfl, Or.inl rfl, _, rfl⟩) (hb hby d20_10) hr, hrun, hended, hPost _ _ ⟨_, _, rfl, ?_, ⟨_, rfl⟩, hW, hsame.mono (by decide) (by decide)⟩⟩
    show Q20 Z p1 p2 z h0 n0 _ s₁.heap _
    rw [e0]
    exact ⟨by rw [hz], N0, rfl⟩
  · refine Gl.st (fun _ k => XS.icmpNo X0.here hx rfl (hb hby d20_2) rfl (flt (hq : ¬ (p2 < p1))).2.2.1 k) ?_
    show Gl p e below P (s₁.setTop (mkF m 5 #[.val (.int p1), .val (.int p2)] []))
    refine Gl.st (fun _ k => XS.iloadN X0.here hx rfl (hb hby d20_5) rfl k) ?_
    show Gl p e below P (s₁.setTop (mkF m 6 #[.val (.int p1), .val (.int p2)] [(.int p1)]))
    refine Gl.st (fun _ k => XS.goto X0.here hx rfl (pc0 := 6) (pc' := 10) rfl (hb hby d20_6) (by decide) (by decide) k) ?_
    show Gl p e below P (s₁.setTop (mkF m 10 #[.val (.int p1), .val (.int p2)] [(.int p1)]))
    obtain ⟨fs, hr, hrun, hended, hW, hsame⟩ := X0.leave (v := some (.int p1)) (fun h => by rw [Bd.returns] at h; cases h)
    refine ⟨_, _, retOut X0 hx Bd.returns rfl (Or.inl ⟨rfl, Or.inl rfl, _, rfl⟩) (hb hby d20_10) hr, hrun, hended, hPost _ _ ⟨_, _, rfl, ?_, ⟨_, rfl⟩, hW, hsame.mono (by decide) (by decide)⟩⟩
    show Q20 Z p1 p2 z h0 n0 _ s₁.heap _
    rw [e0]
    exact ⟨by rw [hz], N0, rfl⟩
theorem pn_21 : plainName "java/util/Arrays" = true := by first | (simp [plainName, overriddenIn]; done) | decide +kernel
theorem ef_21 (m : MethodId) (x0 : Int32) (x1 : Int32) (x2 : Int32) : entryFrame m #[(.int x0), (.int x1), (.int x2)] 3 = mkF m 0 #[.val (.int x0), .val (.int x1), .val (.int x2)] [] := by first | (simp [entryFrame, mkF, argsToLocals, Value.category]; done) | rfl
def Q21 (Z : State) (lo : Nat) (hi : Nat) (h0 : Heap) (n0 : Nat) (v : Option Value) (h : Heap) (L : List Loc) : Prop := v = none ∧ Fr n0 L ∧ h = h0
set_option maxRecDepth 65536 in
set_option maxHeartbeats 40000000 in
theorem rm21 (l : Launch) (Z : State) (a0 : Array Value) (hw : ∀ d ∈ tables_1, d.before a0 Z = true) (ws : List Jvm.Cond) (lo : Nat) (hi : Nat) (h0 : Heap) (n0 : Nat) (Z0 : n0 ≤ h0.size) (h1 : lo ≤ hi) (h2 : hi ≤ 4) :
    MetFree l (⟨"java/util/Arrays", "rangeCheck", "(III)V"⟩ : MethodName) (head1 (Jvm.Cond.code (⟨"java/util/Arrays", "rangeCheck", "(III)V"⟩ : MethodName) jdk_65_method_30_code 3 none :: ws) ({ frames := 0, cells := 0, slots := 0, locals := 0 } : Room)) (fun a U => a = #[(.int (4 : Int32)), (.int (Int32.ofNat lo)), (.int (Int32.ofNat hi))] ∧ Z.Warmed39 U.vm ∧ U.heap = h0) (fun _ _ _ _ _ => True) (fun _ U o U' => ∃ v L, o = .returned v ∧ Q21 Z lo hi h0 n0 v U'.heap L ∧ FrameEnd U o U' L ({ frames := 0, cells := 0, slots := 0, locals := 0 } : Room).cells ({ frames := 0, cells := 0, slots := 0, locals := 0 } : Room).slots) := by
  refine MetFree.of_bodySF (plainFor_of_name pn_21) hisR ?_
  intro p e s m args below meth c s₁ Bd hml0 hP hK
  obtain ⟨rfl, hZ, hh⟩ := hP
  have hx := Bd.exec
  have hby := Bd.bytes
  have hml : c.maxLocals = 3 := hml0
  have hown : s.vm.findClass "java/util/Arrays" = some m.cls := findClass_of_methodNamed Bd.named
  have hnm := (name_of_methodNamed Bd.named Bd.method).1
  have X0 : Stand p l e ({ frames := 0, cells := 0, slots := 0, locals := 0 } : Room) s m #[(.int (4 : Int32)), (.int (Int32.ofNat lo)), (.int (Int32.ofNat hi))] below meth c s₁ [] 0 0 := Stand.of_body Bd
  have e0 : s₁.heap = h0 := by rw [← hh, Bd.state]; rfl
  have N0 := Fr.nil n0
  refine Gl.gen fun P hPost => ?_
  refine Gl.st (fun _ k => castTop (ef_21 m (4 : Int32) (Int32.ofNat lo) (Int32.ofNat hi) ) k) ?_
  show Gl p e below P (s₁.setTop (mkF m 0 #[.val (.int (4 : Int32)), .val (.int (Int32.ofNat lo)), .val (.int (Int32.ofNat hi))] []))
  refine Gl.st (fun _ k => XS.iloadN X0.here hx rfl (hb hby d21_0) rfl k) ?_
  show Gl p e below P (s₁.setTop (mkF m 1 #[.val (.int (4 : Int32)), .val (.int (Int32.ofNat lo)), .val (.int (Int32.ofNat hi))] [(.int (Int32.ofNat lo))]))
  refine Gl.st (fun _ k => XS.iloadN X0.here hx rfl (hb hby d21_1) rfl k) ?_
  show Gl p e below P (s₁.setTop (mkF m 2 #[.val (.int (4 : Int32)), .val (.int (Int32.ofNat lo)), .val (.int (Int32.ofNat hi))] [(.int (Int32.ofNat hi)), (.int (Int32.ofNat lo))]))
  refine Gl.st (fun _ k => XS.icmpYes X0.here hx rfl (pc0 := 2) (pc' := 46) rfl (hb hby d21_2) rfl (flt (fun q => absurd ((own_lt hi lo (by omega) (by omega)).mp q) (by omega) : ¬ ((Int32.ofNat hi) < (Int32.ofNat lo)))).2.2.2 (by decide) (by decide) k) ?_
  show Gl p e below P (s₁.setTop (mkF m 46 #[.val (.int (4 : Int32)), .val (.int (Int32.ofNat lo)), .val (.int (Int32.ofNat hi))] []))
  refine Gl.st (fun _ k => XS.iloadN X0.here hx rfl (hb hby d21_46) rfl k) ?_
  show Gl p e below P (s₁.setTop (mkF m 47 #[.val (.int (4 : Int32)), .val (.int (Int32.ofNat lo)), .val (.int (Int32.ofNat hi))] [(.int (Int32.ofNat lo))]))
  refine Gl.st (fun _ k => XS.ifYes X0.here hx rfl (pc0 := 47) (pc' := 59) rfl (hb hby d21_47) rfl ((if0 _ _).trans (flt (own_neg lo (by omega) : ¬ ((Int32.ofNat lo) < (0 : Int32)))).2.1) (by decide) (by decide) k) ?_
  show Gl p e below P (s₁.setTop (mkF m 59 #[.val (.int (4 : Int32)), .val (.int (Int32.ofNat lo)), .val (.int (Int32.ofNat hi))] []))
  refine Gl.st (fun _ k => XS.iloadN X0.here hx rfl (hb hby d21_59) rfl k) ?_
  show Gl p e below P (s₁.setTop (mkF m 60 #[.val (.int (4 : Int32)), .val (.int (Int32.ofNat lo)), .val (.int (Int32.ofNat hi))] [(.int (Int32.ofNat hi))]))
  refine Gl.st (fun _ k => XS.iloadN X0.here hx rfl (hb hby d21_60) rfl k) ?_
  show Gl p e below P (s₁.setTop (mkF m 61 #[.val (.int (4 : Int32)), .val (.int (Int32.ofNat lo)), .val (.int (Int32.ofNat hi))] [(.int (4 : Int32)), (.int (Int32.ofNat hi))]))
  refine Gl.st (fun _ k => XS.icmpYes X0.here hx rfl (pc0 := 61) (pc' := 73) rfl (hb hby d21_61) rfl (flt (fun q => absurd ((own_lt 4 hi (by omega) (by omega)).mp q) (by omega) : ¬ ((4 : Int32) < (Int32.ofNat hi)))).2.2.2 (by decide) (by decide) k) ?_
  show Gl p e below P (s₁.setTop (mkF m 73 #[.val (.int (4 : Int32)), .val (.int (Int32.ofNat lo)), .val (.int (Int32.ofNat hi))] []))
  obtain ⟨fs, hr, hrun, hended, hW, hsame⟩ := X0.leave (v := none) (fun _ => rfl)
  refine ⟨_, _, X0.returnOut hx Bd.returns (hb hby d21_73) hr, hrun, hended, hPost _ _ ⟨_, _, rfl, ?_, ⟨_, rfl⟩, hW, hsame.mono (by decide) (by decide)⟩⟩
  show Q21 Z lo hi h0 n0 _ s₁.heap _
  rw [e0]
  exact ⟨rfl, N0, rfl⟩
theorem pn_22 : plainName "java/util/Arrays" = true := by first | (simp [plainName, overriddenIn]; done) | decide +kernel
theorem ef_22 (m : MethodId) (x0 : Addr) (x1 : Int32) (x2 : Int32) (x3 : Int32) : entryFrame m #[(.ref x0), (.int x1), (.int x2), (.int x3)] 8 = mkF m 0 #[.val (.ref x0), .val (.int x1), .val (.int x2), .val (.int x3), .unset, .unset, .unset, .unset] [] := by first | (simp [entryFrame, mkF, argsToLocals, Value.category]; done) | rfl
def Q22 (Z : State) (a1 : Addr) (k1 : ClassId) (S : Nat → Int32) (lo : Nat) (hi : Nat) (key : Int32) (h0 : Heap) (n0 : Nat) (v : Option Value) (h : Heap) (L : List Loc) : Prop := (∃ z, v = some (.int z) ∧ own_found S lo hi key z) ∧ Fr n0 L ∧ h = h0
set_option maxRecDepth 65536 in
set_option maxHeartbeats 40000000 in
theorem rm22 (l : Launch) (Z : State) (a0 : Array Value) (hw : ∀ d ∈ tables_1, d.before a0 Z = true) (ws : List Jvm.Cond) (a1 : Addr) (k1 : ClassId) (S : Nat → Int32) (lo : Nat) (hi : Nat) (key : Int32) (h0 : Heap) (n0 : Nat) (Z0 : n0 ≤ h0.size) (V1 : Arv Z h0 a1 k1 .int (4 : Int32) (own_v4 S) (.int (0 : Int32))) (h1 : lo ≤ hi) (h2 : hi ≤ 4) (hS : own_up4 S) :
    MetFree l (⟨"java/util/Arrays", "binarySearch0", "([IIII)I"⟩ : MethodName) (head1 (Jvm.Cond.code (⟨"java/util/Arrays", "binarySearch0", "([IIII)I"⟩ : MethodName) jdk_65_method_59_code 8 (some .int) :: ws) ({ frames := 0, cells := 0, slots := 0, locals := 0 } : Room)) (fun a U => a = #[(.ref a1), (.int (Int32.ofNat lo)), (.int (Int32.ofNat hi)), (.int key)] ∧ Z.Warmed39 U.vm ∧ U.heap = h0) (fun _ _ _ _ _ => True) (fun _ U o U' => ∃ v L, o = .returned v ∧ Q22 Z a1 k1 S lo hi key h0 n0 v U'.heap L ∧ FrameEnd U o U' L ({ frames := 0, cells := 0, slots := 0, locals := 0 } : Room).cells ({ frames := 0, cells := 0, slots := 0, locals := 0 } : Room).slots) := by
  refine MetFree.of_bodySF (plainFor_of_name pn_22) hisR ?_
  intro p e s m args below meth c s₁ Bd hml0 hP hK
  obtain ⟨rfl, hZ, hh⟩ := hP
  have hx := Bd.exec
  have hby := Bd.bytes
  have hml : c.maxLocals = 8 := hml0
  have hown : s.vm.findClass "java/util/Arrays" = some m.cls := findClass_of_methodNamed Bd.named
  have hnm := (name_of_methodNamed Bd.named Bd.method).1
  have X0 : Stand p l e ({ frames := 0, cells := 0, slots := 0, locals := 0 } : Room) s m #[(.ref a1), (.int (Int32.ofNat lo)), (.int (Int32.ofNat hi)), (.int key)] below meth c s₁ [] 0 0 := Stand.of_body Bd
  have e0 : s₁.heap = h0 := by rw [← hh, Bd.state]; rfl
  have N0 := Fr.nil n0
  refine Gl.gen fun P hPost => ?_
  refine Gl.st (fun _ k => castTop (ef_22 m a1 (Int32.ofNat lo) (Int32.ofNat hi) key ) k) ?_
  show Gl p e below P (s₁.setTop (mkF m 0 #[.val (.ref a1), .val (.int (Int32.ofNat lo)), .val (.int (Int32.ofNat hi)), .val (.int key), .unset, .unset, .unset, .unset] []))
  refine Gl.st (fun _ k => XS.iloadN X0.here hx rfl (hb hby d22_0) rfl k) ?_
  show Gl p e below P (s₁.setTop (mkF m 1 #[.val (.ref a1), .val (.int (Int32.ofNat lo)), .val (.int (Int32.ofNat hi)), .val (.int key), .unset, .unset, .unset, .unset] [(.int (Int32.ofNat lo))]))
  refine Gl.st (fun _ k => XS.istore X0.here hx rfl (hb hby d22_1) rfl (l' := #[.val (.ref a1), .val (.int (Int32.ofNat lo)), .val (.int (Int32.ofNat hi)), .val (.int key), .val (.int (Int32.ofNat lo)), .unset, .unset, .unset]) rfl k) ?_
  show Gl p e below P (s₁.setTop (mkF m 3 #[.val (.ref a1), .val (.int (Int32.ofNat lo)), .val (.int (Int32.ofNat hi)), .val (.int key), .val (.int (Int32.ofNat lo)), .unset, .unset, .unset] []))
  refine Gl.st (fun _ k => XS.iloadN X0.here hx rfl (hb hby d22_3) rfl k) ?_
  show Gl p e below P (s₁.setTop (mkF m 4 #[.val (.ref a1), .val (.int (Int32.ofNat lo)), .val (.int (Int32.ofNat hi)), .val (.int key), .val (.int (Int32.ofNat lo)), .unset, .unset, .unset] [(.int (Int32.ofNat hi))]))
  refine Gl.st (fun _ k => XS.iconst X0.here hx rfl (hb hby d22_4) k) ?_
  show Gl p e below P (s₁.setTop (mkF m 5 #[.val (.ref a1), .val (.int (Int32.ofNat lo)), .val (.int (Int32.ofNat hi)), .val (.int key), .val (.int (Int32.ofNat lo)), .unset, .unset, .unset] [(.int (1 : Int32)), (.int (Int32.ofNat hi))]))
  refine Gl.st (fun _ k => XS.isub X0.here hx rfl (hb hby d22_5) rfl k) ?_
  show Gl p e below P (s₁.setTop (mkF m 6 #[.val (.ref a1), .val (.int (Int32.ofNat lo)), .val (.int (Int32.ofNat hi)), .val (.int key), .val (.int (Int32.ofNat lo)), .unset, .unset, .unset] [(.int ((Int32.ofNat hi) - (1 : Int32)))]))
  refine Gl.st (fun _ k => XS.istore X0.here hx rfl (hb hby d22_6) rfl (l' := #[.val (.ref a1), .val (.int (Int32.ofNat lo)), .val (.int (Int32.ofNat hi)), .val (.int key), .val (.int (Int32.ofNat lo)), .val (.int ((Int32.ofNat hi) - (1 : Int32))), .unset, .unset]) rfl k) ?_
  show Gl p e below P (s₁.setTop (mkF m 8 #[.val (.ref a1), .val (.int (Int32.ofNat lo)), .val (.int (Int32.ofNat hi)), .val (.int key), .val (.int (Int32.ofNat lo)), .val (.int ((Int32.ofNat hi) - (1 : Int32))), .unset, .unset] []))
  have LP : ∀ k : Nat, ∀ lw : Nat, ∀ hh : Nat, ∀ s6 : Slot, ∀ s7 : Slot, One s6 → One s7 → lo ≤ lw → lw ≤ hh → hh ≤ hi → hh - lw ≤ k → (∀ j, lo ≤ j → j < lw → S j < key) → (∀ j, hh ≤ j → j < hi → key < S j) → Gl p e below P (s₁.setTop (mkF m 8 #[.val (.ref a1), .val (.int (Int32.ofNat lo)), .val (.int (Int32.ofNat hi)), .val (.int key), .val (.int (Int32.ofNat lw)), .val (.int ((Int32.ofNat hh) - (1 : Int32))), s6, s7] [])) := by
    intro k
    induction k with
    | zero =>
      intro lw hh s6 s7 o6 o7 i1 i2 i5 i6 i3 i4
      show Gl p e below P (s₁.setTop (mkF m 8 #[.val (.ref a1), .val (.int (Int32.ofNat lo)), .val (.int (Int32.ofNat hi)), .val (.int key), .val (.int (Int32.ofNat lw)), .val (.int ((Int32.ofNat hh) - (1 : Int32))), s6, s7] []))
      refine Gl.st (fun _ k => XS.iload X0.here hx rfl (hb hby d22_8) rfl k) ?_
      show Gl p e below P (s₁.setTop (mkF m 10 #[.val (.ref a1), .val (.int (Int32.ofNat lo)), .val (.int (Int32.ofNat hi)), .val (.int key), .val (.int (Int32.ofNat lw)), .val (.int ((Int32.ofNat hh) - (1 : Int32))), s6, s7] [(.int (Int32.ofNat lw))]))
      refine Gl.st (fun _ k => XS.iload X0.here hx rfl (hb hby d22_10) rfl k) ?_
      show Gl p e below P (s₁.setTop (mkF m 12 #[.val (.ref a1), .val (.int (Int32.ofNat lo)), .val (.int (Int32.ofNat hi)), .val (.int key), .val (.int (Int32.ofNat lw)), .val (.int ((Int32.ofNat hh) - (1 : Int32))), s6, s7] [(.int ((Int32.ofNat hh) - (1 : Int32))), (.int (Int32.ofNat lw))]))
      refine Gl.st (fun _ k => XS.icmpYes X0.here hx rfl (pc0 := 12) (pc' := 66) rfl (hb hby d22_12) rfl (tlt ((own_hl hh lw (by omega) (by omega)).mpr (by omega) : ((Int32.ofNat hh) - (1 : Int32)) < (Int32.ofNat lw))).2.2.1 (by decide) (by decide) k) ?_
      show Gl p e below P (s₁.setTop (mkF m 66 #[.val (.ref a1), .val (.int (Int32.ofNat lo)), .val (.int (Int32.ofNat hi)), .val (.int key), .val (.int (Int32.ofNat lw)), .val (.int ((Int32.ofNat hh) - (1 : Int32))), s6, s7] []))
      refine Gl.st (fun _ k => XS.iload X0.here hx rfl (hb hby d22_66) rfl k) ?_
      show Gl p e below P (s₁.setTop (mkF m 68 #[.val (.ref a1), .val (.int (Int32.ofNat lo)), .val (.int (Int32.ofNat hi)), .val (.int key), .val (.int (Int32.ofNat lw)), .val (.int ((Int32.ofNat hh) - (1 : Int32))), s6, s7] [(.int (Int32.ofNat lw))]))
      refine Gl.st (fun _ k => XS.iconst X0.here hx rfl (hb hby d22_68) k) ?_
      show Gl p e below P (s₁.setTop (mkF m 69 #[.val (.ref a1), .val (.int (Int32.ofNat lo)), .val (.int (Int32.ofNat hi)), .val (.int key), .val (.int (Int32.ofNat lw)), .val (.int ((Int32.ofNat hh) - (1 : Int32))), s6, s7] [(.int (1 : Int32)), (.int (Int32.ofNat lw))]))
      refine Gl.st (fun _ k => XS.iadd X0.here hx rfl (hb hby d22_69) rfl k) ?_
      show Gl p e below P (s₁.setTop (mkF m 70 #[.val (.ref a1), .val (.int (Int32.ofNat lo)), .val (.int (Int32.ofNat hi)), .val (.int key), .val (.int (Int32.ofNat lw)), .val (.int ((Int32.ofNat hh) - (1 : Int32))), s6, s7] [(.int ((Int32.ofNat lw) + (1 : Int32)))]))
      refine Gl.st (fun _ k => XS.ineg X0.here hx rfl (hb hby d22_70) rfl k) ?_
      show Gl p e below P (s₁.setTop (mkF m 71 #[.val (.ref a1), .val (.int (Int32.ofNat lo)), .val (.int (Int32.ofNat hi)), .val (.int key), .val (.int (Int32.ofNat lw)), .val (.int ((Int32.ofNat hh) - (1 : Int32))), s6, s7] [(.int (-((Int32.ofNat lw) + (1 : Int32))))]))
      obtain ⟨fs, hr, hrun, hended, hW, hsame⟩ := X0.leave (v := some (.int (-((Int32.ofNat lw) + (1 : Int32))))) (fun h => by rw [Bd.returns] at h; cases h)
      refine ⟨_, _, retOut X0 hx Bd.returns rfl (Or.inl ⟨rfl, Or.inl rfl, _, rfl⟩) (hb hby d22_71) hr, hrun, hended, hPost _ _ ⟨_, _, rfl, ?_, ⟨_, rfl⟩, hW, hsame.mono (by decide) (by decide)⟩⟩
      show Q22 Z a1 k1 S lo hi key h0 n0 _ s₁.heap _
      rw [e0]
      exact ⟨⟨_, rfl, Or.inr ⟨lw, i1, by omega, rfl, i3, fun j q1 q2 => i4 j (by omega) q2⟩⟩, N0, rfl⟩
    | succ k ih =>
      intro lw hh s6 s7 o6 o7 i1 i2 i5 i6 i3 i4
      show Gl p e below P (s₁.setTop (mkF m 8 #[.val (.ref a1), .val (.int (Int32.ofNat lo)), .val (.int (Int32.ofNat hi)), .val (.int key), .val (.int (Int32.ofNat lw)), .val (.int ((Int32.ofNat hh) - (1 : Int32))), s6, s7] []))
      refine Gl.st (fun _ k => XS.iload X0.here hx rfl (hb hby d22_8) rfl k) ?_
      show Gl p e below P (s₁.setTop (mkF m 10 #[.val (.ref a1), .val (.int (Int32.ofNat lo)), .val (.int (Int32.ofNat hi)), .val (.int key), .val (.int (Int32.ofNat lw)), .val (.int ((Int32.ofNat hh) - (1 : Int32))), s6, s7] [(.int (Int32.ofNat lw))]))
      refine Gl.st (fun _ k => XS.iload X0.here hx rfl (hb hby d22_10) rfl k) ?_
      show Gl p e below P (s₁.setTop (mkF m 12 #[.val (.ref a1), .val (.int (Int32.ofNat lo)), .val (.int (Int32.ofNat hi)), .val (.int key), .val (.int (Int32.ofNat lw)), .val (.int ((Int32.ofNat hh) - (1 : Int32))), s6, s7] [(.int ((Int32.ofNat hh) - (1 : Int32))), (.int (Int32.ofNat lw))]))
      by_cases hc : hh ≤ lw
      · refine Gl.st (fun _ k => XS.icmpYes X0.here hx rfl (pc0 := 12) (pc' := 66) rfl (hb hby d22_12) rfl (tlt ((own_hl hh lw (by omega) (by omega)).mpr hc : ((Int32.ofNat hh) - (1 : Int32)) < (Int32.ofNat lw))).2.2.1 (by decide) (by decide) k) ?_
        show Gl p e below P (s₁.setTop (mkF m 66 #[.val (.ref a1), .val (.int (Int32.ofNat lo)), .val (.int (Int32.ofNat hi)), .val (.int key), .val (.int (Int32.ofNat lw)), .val (.int ((Int32.ofNat hh) - (1 : Int32))), s6, s7] []))
        refine Gl.st (fun _ k => XS.iload X0.here hx rfl (hb hby d22_66) rfl k) ?_
        show Gl p e below P (s₁.setTop (mkF m 68 #[.val (.ref a1), .val (.int (Int32.ofNat lo)), .val (.int (Int32.ofNat hi)), .val (.int key), .val (.int (Int32.ofNat lw)), .val (.int ((Int32.ofNat hh) - (1 : Int32))), s6, s7] [(.int (Int32.ofNat lw))]))
        refine Gl.st (fun _ k => XS.iconst X0.here hx rfl (hb hby d22_68) k) ?_
        show Gl p e below P (s₁.setTop (mkF m 69 #[.val (.ref a1), .val (.int (Int32.ofNat lo)), .val (.int (Int32.ofNat hi)), .val (.int key), .val (.int (Int32.ofNat lw)), .val (.int ((Int32.ofNat hh) - (1 : Int32))), s6, s7] [(.int (1 : Int32)), (.int (Int32.ofNat lw))]))
        refine Gl.st (fun _ k => XS.iadd X0.here hx rfl (hb hby d22_69) rfl k) ?_
        show Gl p e below P (s₁.setTop (mkF m 70 #[.val (.ref a1), .val (.int (Int32.ofNat lo)), .val (.int (Int32.ofNat hi)), .val (.int key), .val (.int (Int32.ofNat lw)), .val (.int ((Int32.ofNat hh) - (1 : Int32))), s6, s7] [(.int ((Int32.ofNat lw) + (1 : Int32)))]))
        refine Gl.st (fun _ k => XS.ineg X0.here hx rfl (hb hby d22_70) rfl k) ?_
        show Gl p e below P (s₁.setTop (mkF m 71 #[.val (.ref a1), .val (.int (Int32.ofNat lo)), .val (.int (Int32.ofNat hi)), .val (.int key), .val (.int (Int32.ofNat lw)), .val (.int ((Int32.ofNat hh) - (1 : Int32))), s6, s7] [(.int (-((Int32.ofNat lw) + (1 : Int32))))]))
        obtain ⟨fs, hr, hrun, hended, hW, hsame⟩ := X0.leave (v := some (.int (-((Int32.ofNat lw) + (1 : Int32))))) (fun h => by rw [Bd.returns] at h; cases h)
        refine ⟨_, _, retOut X0 hx Bd.returns rfl (Or.inl ⟨rfl, Or.inl rfl, _, rfl⟩) (hb hby d22_71) hr, hrun, hended, hPost _ _ ⟨_, _, rfl, ?_, ⟨_, rfl⟩, hW, hsame.mono (by decide) (by decide)⟩⟩
        show Q22 Z a1 k1 S lo hi key h0 n0 _ s₁.heap _
        rw [e0]
        exact ⟨⟨_, rfl, Or.inr ⟨lw, i1, by omega, rfl, i3, fun j q1 q2 => i4 j (by omega) q2⟩⟩, N0, rfl⟩
      · refine Gl.st (fun _ k => XS.icmpNo X0.here hx rfl (hb hby d22_12) rfl (flt (fun q => hc ((own_hl hh lw (by omega) (by omega)).mp q) : ¬ (((Int32.ofNat hh) - (1 : Int32)) < (Int32.ofNat lw)))).2.2.1 k) ?_
        show Gl p e below P (s₁.setTop (mkF m 15 #[.val (.ref a1), .val (.int (Int32.ofNat lo)), .val (.int (Int32.ofNat hi)), .val (.int key), .val (.int (Int32.ofNat lw)), .val (.int ((Int32.ofNat hh) - (1 : Int32))), s6, s7] []))
        refine Gl.st (fun _ k => XS.iload X0.here hx rfl (hb hby d22_15) rfl k) ?_
        show Gl p e below P (s₁.setTop (mkF m 17 #[.val (.ref a1), .val (.int (Int32.ofNat lo)), .val (.int (Int32.ofNat hi)), .val (.int key), .val (.int (Int32.ofNat lw)), .val (.int ((Int32.ofNat hh) - (1 : Int32))), s6, s7] [(.int (Int32.ofNat lw))]))
        refine Gl.st (fun _ k => XS.iload X0.here hx rfl (hb hby d22_17) rfl k) ?_
        show Gl p e below P (s₁.setTop (mkF m 19 #[.val (.ref a1), .val (.int (Int32.ofNat lo)), .val (.int (Int32.ofNat hi)), .val (.int key), .val (.int (Int32.ofNat lw)), .val (.int ((Int32.ofNat hh) - (1 : Int32))), s6, s7] [(.int ((Int32.ofNat hh) - (1 : Int32))), (.int (Int32.ofNat lw))]))
        refine Gl.st (fun _ k => XS.iadd X0.here hx rfl (hb hby d22_19) rfl k) ?_
        show Gl p e below P (s₁.setTop (mkF m 20 #[.val (.ref a1), .val (.int (Int32.ofNat lo)), .val (.int (Int32.ofNat hi)), .val (.int key), .val (.int (Int32.ofNat lw)), .val (.int ((Int32.ofNat hh) - (1 : Int32))), s6, s7] [(.int ((Int32.ofNat lw) + ((Int32.ofNat hh) - (1 : Int32))))]))
        refine Gl.st (fun _ k => XS.iconst X0.here hx rfl (hb hby d22_20) k) ?_
        show Gl p e below P (s₁.setTop (mkF m 21 #[.val (.ref a1), .val (.int (Int32.ofNat lo)), .val (.int (Int32.ofNat hi)), .val (.int key), .val (.int (Int32.ofNat lw)), .val (.int ((Int32.ofNat hh) - (1 : Int32))), s6, s7] [(.int (1 : Int32)), (.int ((Int32.ofNat lw) + ((Int32.ofNat hh) - (1 : Int32))))]))
        refine Gl.st (fun _ k => XS.iushr X0.here hx rfl (hb hby d22_21) rfl k) ?_
        show Gl p e below P (s₁.setTop (mkF m 22 #[.val (.ref a1), .val (.int (Int32.ofNat lo)), .val (.int (Int32.ofNat hi)), .val (.int key), .val (.int (Int32.ofNat lw)), .val (.int ((Int32.ofNat hh) - (1 : Int32))), s6, s7] [(.int ((((Int32.ofNat lw) + ((Int32.ofNat hh) - (1 : Int32))).toUInt32 >>> ((1 : Int32) &&& 31).toUInt32).toInt32))]))
        obtain ⟨md, hmd⟩ : ∃ md, md = (lw + hh - 1) / 2 := ⟨_, rfl⟩
        have b1 : lw ≤ md := by omega
        have b2 : md < hh := by omega
        have hmid := own_mid lw hh (by omega) (by omega)
        rw [← hmd] at hmid
        rw [show ((((Int32.ofNat lw) + ((Int32.ofNat hh) - (1 : Int32))).toUInt32 >>> ((1 : Int32) &&& 31).toUInt32).toInt32) = (Int32.ofNat md) from hmid]
        show Gl p e below P (s₁.setTop (mkF m 22 #[.val (.ref a1), .val (.int (Int32.ofNat lo)), .val (.int (Int32.ofNat hi)), .val (.int key), .val (.int (Int32.ofNat lw)), .val (.int ((Int32.ofNat hh) - (1 : Int32))), s6, s7] [(.int (Int32.ofNat md))]))
        refine Gl.st (fun _ k => XS.istore X0.here hx rfl (hb hby d22_22) rfl (l' := #[.val (.ref a1), .val (.int (Int32.ofNat lo)), .val (.int (Int32.ofNat hi)), .val (.int key), .val (.int (Int32.ofNat lw)), .val (.int ((Int32.ofNat hh) - (1 : Int32))), .val (.int (Int32.ofNat md)), s7]) (XS.store1 (i := 6) (v := (.int (Int32.ofNat md))) rfl o6 rfl) k) ?_
        show Gl p e below P (s₁.setTop (mkF m 24 #[.val (.ref a1), .val (.int (Int32.ofNat lo)), .val (.int (Int32.ofNat hi)), .val (.int key), .val (.int (Int32.ofNat lw)), .val (.int ((Int32.ofNat hh) - (1 : Int32))), .val (.int (Int32.ofNat md)), s7] []))
        refine Gl.st (fun _ k => XS.aloadN X0.here hx rfl (hb hby d22_24) rfl rfl k) ?_
        show Gl p e below P (s₁.setTop (mkF m 25 #[.val (.ref a1), .val (.int (Int32.ofNat lo)), .val (.int (Int32.ofNat hi)), .val (.int key), .val (.int (Int32.ofNat lw)), .val (.int ((Int32.ofNat hh) - (1 : Int32))), .val (.int (Int32.ofNat md)), s7] [(.ref a1)]))
        refine Gl.st (fun _ k => XS.iload X0.here hx rfl (hb hby d22_25) rfl k) ?_
        show Gl p e below P (s₁.setTop (mkF m 27 #[.val (.ref a1), .val (.int (Int32.ofNat lo)), .val (.int (Int32.ofNat hi)), .val (.int key), .val (.int (Int32.ofNat lw)), .val (.int ((Int32.ofNat hh) - (1 : Int32))), .val (.int (Int32.ofNat md)), s7] [(.int (Int32.ofNat md)), (.ref a1)]))
        obtain ⟨c2, Ar2, q2, S2, M2, H2, U2⟩ := id V1
        have hin2 : ¬ ((Int32.ofNat md) < 0 ∨ c2.slots.size ≤ ((Int32.ofNat md)).toNatClampNeg) := inb_of S2 ⟨(own_neg md (by omega)), (own_lt4 md (by omega))⟩
        have hat2 : c2.slots[((Int32.ofNat md)).toNatClampNeg]? = some (.int (S md)) := H2.at hin2 (by rw [own_nn md (by omega)]; exact own_get4 S md (by omega))
        refine Gl.st (X0.iaload hx (j := (Int32.ofNat md)) (v := (.int (S md))) (by rw [e0]; exact Ar2.1) (State.isArrayOf_alike hZ.alike Ar2.2.1) Ar2.2.2 hin2 hat2 (g := (mkF m 27 #[.val (.ref a1), .val (.int (Int32.ofNat lo)), .val (.int (Int32.ofNat hi)), .val (.int key), .val (.int (Int32.ofNat lw)), .val (.int ((Int32.ofNat hh) - (1 : Int32))), .val (.int (Int32.ofNat md)), s7] [(.int (Int32.ofNat md)), (.ref a1)])) rfl rfl (hb hby d22_27)) ?_
        show Gl p e below P (s₁.setTop (mkF m 28 #[.val (.ref a1), .val (.int (Int32.ofNat lo)), .val (.int (Int32.ofNat hi)), .val (.int key), .val (.int (Int32.ofNat lw)), .val (.int ((Int32.ofNat hh) - (1 : Int32))), .val (.int (Int32.ofNat md)), s7] [(.int (S md))]))
        refine Gl.st (fun _ k => XS.istore X0.here hx rfl (hb hby d22_28) rfl (l' := #[.val (.ref a1), .val (.int (Int32.ofNat lo)), .val (.int (Int32.ofNat hi)), .val (.int key), .val (.int (Int32.ofNat lw)), .val (.int ((Int32.ofNat hh) - (1 : Int32))), .val (.int (Int32.ofNat md)), .val (.int (S md))]) (XS.store1 (i := 7) (v := (.int (S md))) rfl o7 rfl) k) ?_
        show Gl p e below P (s₁.setTop (mkF m 30 #[.val (.ref a1), .val (.int (Int32.ofNat lo)), .val (.int (Int32.ofNat hi)), .val (.int key), .val (.int (Int32.ofNat lw)), .val (.int ((Int32.ofNat hh) - (1 : Int32))), .val (.int (Int32.ofNat md)), .val (.int (S md))] []))
        refine Gl.st (fun _ k => XS.iload X0.here hx rfl (hb hby d22_30) rfl k) ?_
        show Gl p e below P (s₁.setTop (mkF m 32 #[.val (.ref a1), .val (.int (Int32.ofNat lo)), .val (.int (Int32.ofNat hi)), .val (.int key), .val (.int (Int32.ofNat lw)), .val (.int ((Int32.ofNat hh) - (1 : Int32))), .val (.int (Int32.ofNat md)), .val (.int (S md))] [(.int (S md))]))
        refine Gl.st (fun _ k => XS.iloadN X0.here hx rfl (hb hby d22_32) rfl k) ?_
        show Gl p e below P (s₁.setTop (mkF m 33 #[.val (.ref a1), .val (.int (Int32.ofNat lo)), .val (.int (Int32.ofNat hi)), .val (.int key), .val (.int (Int32.ofNat lw)), .val (.int ((Int32.ofNat hh) - (1 : Int32))), .val (.int (Int32.ofNat md)), .val (.int (S md))] [(.int key), (.int (S md))]))
        by_cases hlt : S md < key
        · refine Gl.st (fun _ k => XS.icmpNo X0.here hx rfl (hb hby d22_33) rfl (tlt (hlt : (S md) < key)).2.1 k) ?_
          show Gl p e below P (s₁.setTop (mkF m 36 #[.val (.ref a1), .val (.int (Int32.ofNat lo)), .val (.int (Int32.ofNat hi)), .val (.int key), .val (.int (Int32.ofNat lw)), .val (.int ((Int32.ofNat hh) - (1 : Int32))), .val (.int (Int32.ofNat md)), .val (.int (S md))] []))
          refine Gl.st (fun _ k => XS.iload X0.here hx rfl (hb hby d22_36) rfl k) ?_
          show Gl p e below P (s₁.setTop (mkF m 38 #[.val (.ref a1), .val (.int (Int32.ofNat lo)), .val (.int (Int32.ofNat hi)), .val (.int key), .val (.int (Int32.ofNat lw)), .val (.int ((Int32.ofNat hh) - (1 : Int32))), .val (.int (Int32.ofNat md)), .val (.int (S md))] [(.int (Int32.ofNat md))]))
          refine Gl.st (fun _ k => XS.iconst X0.here hx rfl (hb hby d22_38) k) ?_
          show Gl p e below P (s₁.setTop (mkF m 39 #[.val (.ref a1), .val (.int (Int32.ofNat lo)), .val (.int (Int32.ofNat hi)), .val (.int key), .val (.int (Int32.ofNat lw)), .val (.int ((Int32.ofNat hh) - (1 : Int32))), .val (.int (Int32.ofNat md)), .val (.int (S md))] [(.int (1 : Int32)), (.int (Int32.ofNat md))]))
          refine Gl.st (fun _ k => XS.iadd X0.here hx rfl (hb hby d22_39) rfl k) ?_
          show Gl p e below P (s₁.setTop (mkF m 40 #[.val (.ref a1), .val (.int (Int32.ofNat lo)), .val (.int (Int32.ofNat hi)), .val (.int key), .val (.int (Int32.ofNat lw)), .val (.int ((Int32.ofNat hh) - (1 : Int32))), .val (.int (Int32.ofNat md)), .val (.int (S md))] [(.int ((Int32.ofNat md) + (1 : Int32)))]))
          rw [show ((Int32.ofNat md) + (1 : Int32)) = (Int32.ofNat (md + 1)) from own_s md]
          show Gl p e below P (s₁.setTop (mkF m 40 #[.val (.ref a1), .val (.int (Int32.ofNat lo)), .val (.int (Int32.ofNat hi)), .val (.int key), .val (.int (Int32.ofNat lw)), .val (.int ((Int32.ofNat hh) - (1 : Int32))), .val (.int (Int32.ofNat md)), .val (.int (S md))] [(.int (Int32.ofNat (md + 1)))]))
          refine Gl.st (fun _ k => XS.istore X0.here hx rfl (hb hby d22_40) rfl (l' := #[.val (.ref a1), .val (.int (Int32.ofNat lo)), .val (.int (Int32.ofNat hi)), .val (.int key), .val (.int (Int32.ofNat (md + 1))), .val (.int ((Int32.ofNat hh) - (1 : Int32))), .val (.int (Int32.ofNat md)), .val (.int (S md))]) rfl k) ?_
          show Gl p e below P (s₁.setTop (mkF m 42 #[.val (.ref a1), .val (.int (Int32.ofNat lo)), .val (.int (Int32.ofNat hi)), .val (.int key), .val (.int (Int32.ofNat (md + 1))), .val (.int ((Int32.ofNat hh) - (1 : Int32))), .val (.int (Int32.ofNat md)), .val (.int (S md))] []))
          refine Gl.st (fun _ k => XS.goto X0.here hx rfl (pc0 := 42) (pc' := 63) rfl (hb hby d22_42) (by decide) (by decide) k) ?_
          show Gl p e below P (s₁.setTop (mkF m 63 #[.val (.ref a1), .val (.int (Int32.ofNat lo)), .val (.int (Int32.ofNat hi)), .val (.int key), .val (.int (Int32.ofNat (md + 1))), .val (.int ((Int32.ofNat hh) - (1 : Int32))), .val (.int (Int32.ofNat md)), .val (.int (S md))] []))
          refine Gl.st (fun _ k => XS.goto X0.here hx rfl (pc0 := 63) (pc' := 8) rfl (hb hby d22_63) (by decide) (by decide) k) ?_
          show Gl p e below P (s₁.setTop (mkF m 8 #[.val (.ref a1), .val (.int (Int32.ofNat lo)), .val (.int (Int32.ofNat hi)), .val (.int key), .val (.int (Int32.ofNat (md + 1))), .val (.int ((Int32.ofNat hh) - (1 : Int32))), .val (.int (Int32.ofNat md)), .val (.int (S md))] []))
          exact ih (md + 1) hh _ _ (One.val rfl) (One.val rfl) (by omega) (by omega) (by omega) (by omega) (fun j q1 q2 => by by_cases q : j < md; exact own_tr (hS j md q (by omega)) hlt; exact (show j = md by omega) ▸ hlt) i4
        · refine Gl.st (fun _ k => XS.icmpYes X0.here hx rfl (pc0 := 33) (pc' := 45) rfl (hb hby d22_33) rfl (flt (hlt : ¬ ((S md) < key))).2.1 (by decide) (by decide) k) ?_
          show Gl p e below P (s₁.setTop (mkF m 45 #[.val (.ref a1), .val (.int (Int32.ofNat lo)), .val (.int (Int32.ofNat hi)), .val (.int key), .val (.int (Int32.ofNat lw)), .val (.int ((Int32.ofNat hh) - (1 : Int32))), .val (.int (Int32.ofNat md)), .val (.int (S md))] []))
          refine Gl.st (fun _ k => XS.iload X0.here hx rfl (hb hby d22_45) rfl k) ?_
          show Gl p e below P (s₁.setTop (mkF m 47 #[.val (.ref a1), .val (.int (Int32.ofNat lo)), .val (.int (Int32.ofNat hi)), .val (.int key), .val (.int (Int32.ofNat lw)), .val (.int ((Int32.ofNat hh) - (1 : Int32))), .val (.int (Int32.ofNat md)), .val (.int (S md))] [(.int (S md))]))
          refine Gl.st (fun _ k => XS.iloadN X0.here hx rfl (hb hby d22_47) rfl k) ?_
          show Gl p e below P (s₁.setTop (mkF m 48 #[.val (.ref a1), .val (.int (Int32.ofNat lo)), .val (.int (Int32.ofNat hi)), .val (.int key), .val (.int (Int32.ofNat lw)), .val (.int ((Int32.ofNat hh) - (1 : Int32))), .val (.int (Int32.ofNat md)), .val (.int (S md))] [(.int key), (.int (S md))]))
          by_cases hgt : key < S md
          · refine Gl.st (fun _ k => XS.icmpNo X0.here hx rfl (hb hby d22_48) rfl (tlt (hgt : key < (S md))).2.2.2 k) ?_
            show Gl p e below P (s₁.setTop (mkF m 51 #[.val (.ref a1), .val (.int (Int32.ofNat lo)), .val (.int (Int32.ofNat hi)), .val (.int key), .val (.int (Int32.ofNat lw)), .val (.int ((Int32.ofNat hh) - (1 : Int32))), .val (.int (Int32.ofNat md)), .val (.int (S md))] []))
            refine Gl.st (fun _ k => XS.iload X0.here hx rfl (hb hby d22_51) rfl k) ?_
            show Gl p e below P (s₁.setTop (mkF m 53 #[.val (.ref a1), .val (.int (Int32.ofNat lo)), .val (.int (Int32.ofNat hi)), .val (.int key), .val (.int (Int32.ofNat lw)), .val (.int ((Int32.ofNat hh) - (1 : Int32))), .val (.int (Int32.ofNat md)), .val (.int (S md))] [(.int (Int32.ofNat md))]))
            refine Gl.st (fun _ k => XS.iconst X0.here hx rfl (hb hby d22_53) k) ?_
            show Gl p e below P (s₁.setTop (mkF m 54 #[.val (.ref a1), .val (.int (Int32.ofNat lo)), .val (.int (Int32.ofNat hi)), .val (.int key), .val (.int (Int32.ofNat lw)), .val (.int ((Int32.ofNat hh) - (1 : Int32))), .val (.int (Int32.ofNat md)), .val (.int (S md))] [(.int (1 : Int32)), (.int (Int32.ofNat md))]))
            refine Gl.st (fun _ k => XS.isub X0.here hx rfl (hb hby d22_54) rfl k) ?_
            show Gl p e below P (s₁.setTop (mkF m 55 #[.val (.ref a1), .val (.int (Int32.ofNat lo)), .val (.int (Int32.ofNat hi)), .val (.int key), .val (.int (Int32.ofNat lw)), .val (.int ((Int32.ofNat hh) - (1 : Int32))), .val (.int (Int32.ofNat md)), .val (.int (S md))] [(.int ((Int32.ofNat md) - (1 : Int32)))]))
            refine Gl.st (fun _ k => XS.istore X0.here hx rfl (hb hby d22_55) rfl (l' := #[.val (.ref a1), .val (.int (Int32.ofNat lo)), .val (.int (Int32.ofNat hi)), .val (.int key), .val (.int (Int32.ofNat lw)), .val (.int ((Int32.ofNat md) - (1 : Int32))), .val (.int (Int32.ofNat md)), .val (.int (S md))]) rfl k) ?_
            show Gl p e below P (s₁.setTop (mkF m 57 #[.val (.ref a1), .val (.int (Int32.ofNat lo)), .val (.int (Int32.ofNat hi)), .val (.int key), .val (.int (Int32.ofNat lw)), .val (.int ((Int32.ofNat md) - (1 : Int32))), .val (.int (Int32.ofNat md)), .val (.int (S md))] []))
            refine Gl.st (fun _ k => XS.goto X0.here hx rfl (pc0 := 57) (pc' := 63) rfl (hb hby d22_57) (by decide) (by decide) k) ?_
            show Gl p e below P (s₁.setTop (mkF m 63 #[.val (.ref a1), .val (.int (Int32.ofNat lo)), .val (.int (Int32.ofNat hi)), .val (.int key), .val (.int (Int32.ofNat lw)), .val (.int ((Int32.ofNat md) - (1 : Int32))), .val (.int (Int32.ofNat md)), .val (.int (S md))] []))
            refine Gl.st (fun _ k => XS.goto X0.here hx rfl (pc0 := 63) (pc' := 8) rfl (hb hby d22_63) (by decide) (by decide) k) ?_
            show Gl p e below P (s₁.setTop (mkF m 8 #[.val (.ref a1), .val (.int (Int32.ofNat lo)), .val (.int (Int32.ofNat hi)), .val (.int key), .val (.int (Int32.ofNat lw)), .val (.int ((Int32.ofNat md) - (1 : Int32))), .val (.int (Int32.ofNat md)), .val (.int (S md))] []))
            exact ih lw md _ _ (One.val rfl) (One.val rfl) i1 (by omega) (by omega) (by omega) i3 (fun j q1 q2 => by by_cases q : md < j; exact own_tr hgt (hS md j q (by omega)); exact (show j = md by omega) ▸ hgt)
          · refine Gl.st (fun _ k => XS.icmpYes X0.here hx rfl (pc0 := 48) (pc' := 60) rfl (hb hby d22_48) rfl (flt (hgt : ¬ (key < (S md)))).2.2.2 (by decide) (by decide) k) ?_
            show Gl p e below P (s₁.setTop (mkF m 60 #[.val (.ref a1), .val (.int (Int32.ofNat lo)), .val (.int (Int32.ofNat hi)), .val (.int key), .val (.int (Int32.ofNat lw)), .val (.int ((Int32.ofNat hh) - (1 : Int32))), .val (.int (Int32.ofNat md)), .val (.int (S md))] []))
            refine Gl.st (fun _ k => XS.iload X0.here hx rfl (hb hby d22_60) rfl k) ?_
            show Gl p e below P (s₁.setTop (mkF m 62 #[.val (.ref a1), .val (.int (Int32.ofNat lo)), .val (.int (Int32.ofNat hi)), .val (.int key), .val (.int (Int32.ofNat lw)), .val (.int ((Int32.ofNat hh) - (1 : Int32))), .val (.int (Int32.ofNat md)), .val (.int (S md))] [(.int (Int32.ofNat md))]))
            obtain ⟨fs, hr, hrun, hended, hW, hsame⟩ := X0.leave (v := some (.int (Int32.ofNat md))) (fun h => by rw [Bd.returns] at h; cases h)
            refine ⟨_, _, retOut X0 hx Bd.returns rfl (Or.inl ⟨rfl, Or.inl rfl, _, rfl⟩) (hb hby d22_62) hr, hrun, hended, hPost _ _ ⟨_, _, rfl, ?_, ⟨_, rfl⟩, hW, hsame.mono (by decide) (by decide)⟩⟩
            show Q22 Z a1 k1 S lo hi key h0 n0 _ s₁.heap _
            rw [e0]
            exact ⟨⟨_, rfl, Or.inl ⟨md, by omega, by omega, rfl, own_tri hlt hgt⟩⟩, N0, rfl⟩
  exact LP (hi - lo) lo hi _ _ One.u One.u (Nat.le_refl _) h1 (Nat.le_refl _) (Nat.le_refl _) (fun j q1 q2 => absurd q2 (by omega)) (fun j q1 q2 => absurd q2 (by omega))
theorem pn_23 : plainName "java/util/Arrays" = true := by first | (simp [plainName, overriddenIn]; done) | decide +kernel
theorem ef_23 (m : MethodId) (x0 : Addr) (x1 : Int32) (x2 : Int32) (x3 : Int32) : entryFrame m #[(.ref x0), (.int x1), (.int x2), (.int x3)] 4 = mkF m 0 #[.val (.ref x0), .val (.int x1), .val (.int x2), .val (.int x3)] [] := by first | (simp [entryFrame, mkF, argsToLocals, Value.category]; done) | rfl
def Q23 (Z : State) (a1 : Addr) (k1 : ClassId) (S : Nat → Int32) (lo : Nat) (hi : Nat) (key : Int32) (h0 : Heap) (n0 : Nat) (v : Option Value) (h : Heap) (L : List Loc) : Prop := (∃ z, v = some (.int z) ∧ own_found S lo hi key z) ∧ Fr n0 L ∧ h = h0
set_option maxRecDepth 65536 in
set_option maxHeartbeats 40000000 in
theorem rm23 (l : Launch) (Z : State) (a0 : Array Value) (hw : ∀ d ∈ tables_1, d.before a0 Z = true) (ws : List Jvm.Cond) (a1 : Addr) (k1 : ClassId) (S : Nat → Int32) (lo : Nat) (hi : Nat) (key : Int32) (h0 : Heap) (n0 : Nat) (Z0 : n0 ≤ h0.size) (V1 : Arv Z h0 a1 k1 .int (4 : Int32) (own_v4 S) (.int (0 : Int32))) (h1 : lo ≤ hi) (h2 : hi ≤ 4) (hS : own_up4 S) :
    MetFree l (⟨"java/util/Arrays", "binarySearch", "([IIII)I"⟩ : MethodName) (head1 (Jvm.Cond.code (⟨"java/util/Arrays", "binarySearch", "([IIII)I"⟩ : MethodName) jdk_65_method_58_code 4 (some .int) :: ws) ({ frames := 1, cells := 0, slots := 0, locals := 19 } : Room)) (fun a U => a = #[(.ref a1), (.int (Int32.ofNat lo)), (.int (Int32.ofNat hi)), (.int key)] ∧ Z.Warmed39 U.vm ∧ U.heap = h0) (fun _ _ _ _ _ => True) (fun _ U o U' => ∃ v L, o = .returned v ∧ Q23 Z a1 k1 S lo hi key h0 n0 v U'.heap L ∧ FrameEnd U o U' L ({ frames := 1, cells := 0, slots := 0, locals := 19 } : Room).cells ({ frames := 1, cells := 0, slots := 0, locals := 19 } : Room).slots) := by
  refine MetFree.of_bodySF (plainFor_of_name pn_23) hisR ?_
  intro p e s m args below meth c s₁ Bd hml0 hP hK
  obtain ⟨rfl, hZ, hh⟩ := hP
  have hx := Bd.exec
  have hby := Bd.bytes
  have hml : c.maxLocals = 4 := hml0
  have hown : s.vm.findClass "java/util/Arrays" = some m.cls := findClass_of_methodNamed Bd.named
  have hnm := (name_of_methodNamed Bd.named Bd.method).1
  have X0 : Stand p l e ({ frames := 1, cells := 0, slots := 0, locals := 19 } : Room) s m #[(.ref a1), (.int (Int32.ofNat lo)), (.int (Int32.ofNat hi)), (.int key)] below meth c s₁ [] 0 0 := Stand.of_body Bd
  have e0 : s₁.heap = h0 := by rw [← hh, Bd.state]; rfl
  have N0 := Fr.nil n0
  refine Gl.gen fun P hPost => ?_
  refine Gl.st (fun _ k => castTop (ef_23 m a1 (Int32.ofNat lo) (Int32.ofNat hi) key ) k) ?_
  show Gl p e below P (s₁.setTop (mkF m 0 #[.val (.ref a1), .val (.int (Int32.ofNat lo)), .val (.int (Int32.ofNat hi)), .val (.int key)] []))
  refine Gl.st (fun _ k => XS.aloadN X0.here hx rfl (hb hby d23_0) rfl rfl k) ?_
  show Gl p e below P (s₁.setTop (mkF m 1 #[.val (.ref a1), .val (.int (Int32.ofNat lo)), .val (.int (Int32.ofNat hi)), .val (.int key)] [(.ref a1)]))
  obtain ⟨c1, Ar1, q1, S1, M1, H1, U1⟩ := id V1
  refine Gl.st (X0.arraylength hx (by rw [e0]; exact Ar1.1) (State.isArrayOf_alike hZ.alike Ar1.2.1) (g := (mkF m 1 #[.val (.ref a1), .val (.int (Int32.ofNat lo)), .val (.int (Int32.ofNat hi)), .val (.int key)] [(.ref a1)])) rfl rfl (hb hby d23_1)) ?_
  rw [len_of S1 M1]
  show Gl p e below P (s₁.setTop (mkF m 2 #[.val (.ref a1), .val (.int (Int32.ofNat lo)), .val (.int (Int32.ofNat hi)), .val (.int key)] [(.int (4 : Int32))]))
  refine Gl.st (fun _ k => XS.iloadN X0.here hx rfl (hb hby d23_2) rfl k) ?_
  show Gl p e below P (s₁.setTop (mkF m 3 #[.val (.ref a1), .val (.int (Int32.ofNat lo)), .val (.int (Int32.ofNat hi)), .val (.int key)] [(.int (Int32.ofNat lo)), (.int (4 : Int32))]))
  refine Gl.st (fun _ k => XS.iloadN X0.here hx rfl (hb hby d23_3) rfl k) ?_
  show Gl p e below P (s₁.setTop (mkF m 4 #[.val (.ref a1), .val (.int (Int32.ofNat lo)), .val (.int (Int32.ofNat hi)), .val (.int key)] [(.int (Int32.ofNat hi)), (.int (Int32.ofNat lo)), (.int (4 : Int32))]))
  obtain ⟨_, _, ⟨T2, L2, k2, n2⟩, -, X2, ⟨Lc2, hQ2, l2, y2, z2⟩, st2⟩ := Jvm.LawKit.callS X0 hx (y := (⟨"java/util/Arrays", "rangeCheck", "(III)V"⟩ : MethodName)) hown (mvT hZ (hw _ (List.mem_of_getElem? (i := 24) rfl))) (mvT hZ (hw _ (List.mem_of_getElem? (i := 25) rfl))) (mvT hZ (hw _ (List.mem_of_getElem? (i := 22) rfl))) (mvT hZ (hw _ (List.mem_of_getElem? (i := 26) rfl))) (by decide) (backOf (W := 0) (rm21 l Z a0 hw [] lo hi h0 n0 Z0 h1 h2) hZ (hw _ (List.mem_of_getElem? (i := 26) rfl)) (hw _ (List.mem_of_getElem? (i := 22) rfl)) (by decide) (by decide)) (g := (mkF m 4 #[.val (.ref a1), .val (.int (Int32.ofNat lo)), .val (.int (Int32.ofNat hi)), .val (.int key)] [(.int (Int32.ofNat hi)), (.int (Int32.ofNat lo)), (.int (4 : Int32))])) rfl (by rw [hml]; rfl) (argsL := [(.int (4 : Int32)), (.int (Int32.ofNat lo)), (.int (Int32.ofNat hi))]) (rest := []) (lenOf pd_0 rfl) rfl (by show 2 * 0 + _ ≤ _; exact Nat.le_of_eq rfl) (hb hby d23_4) (fun _ _ => ⟨rfl, e0, (by decide : 0 + 0 ≤ _), (by decide : 0 + 0 ≤ _)⟩)
  dsimp only [Pt.U, Pt.locs, Pt.cells, Pt.slots] at X2 l2 y2 z2 st2 hQ2
  subst l2 y2 z2
  obtain ⟨rfl, N2q, e2⟩ := hQ2
  have N2 := Fr.app N0 N2q
  refine Gl.st st2 ?_
  show Gl p e below P (T2.setTop (mkF m 7 #[.val (.ref a1), .val (.int (Int32.ofNat lo)), .val (.int (Int32.ofNat hi)), .val (.int key)] []))
  refine Gl.st (fun _ k => XS.aloadN X2.here hx rfl (hb hby d23_7) rfl rfl k) ?_
  show Gl p e below P (T2.setTop (mkF m 8 #[.val (.ref a1), .val (.int (Int32.ofNat lo)), .val (.int (Int32.ofNat hi)), .val (.int key)] [(.ref a1)]))
  refine Gl.st (fun _ k => XS.iloadN X2.here hx rfl (hb hby d23_8) rfl k) ?_
  show Gl p e below P (T2.setTop (mkF m 9 #[.val (.ref a1), .val (.int (Int32.ofNat lo)), .val (.int (Int32.ofNat hi)), .val (.int key)] [(.int (Int32.ofNat lo)), (.ref a1)]))
  refine Gl.st (fun _ k => XS.iloadN X2.here hx rfl (hb hby d23_9) rfl k) ?_
  show Gl p e below P (T2.setTop (mkF m 10 #[.val (.ref a1), .val (.int (Int32.ofNat lo)), .val (.int (Int32.ofNat hi)), .val (.int key)] [(.int (Int32.ofNat hi)), (.int (Int32.ofNat lo)), (.ref a1)]))
  refine Gl.st (fun _ k => XS.iloadN X2.here hx rfl (hb hby d23_10) rfl k) ?_
  show Gl p e below P (T2.setTop (mkF m 11 #[.val (.ref a1), .val (.int (Int32.ofNat lo)), .val (.int (Int32.ofNat hi)), .val (.int key)] [(.int key), (.int (Int32.ofNat hi)), (.int (Int32.ofNat lo)), (.ref a1)]))
  obtain ⟨_, _, ⟨T3, L3, k3, n3⟩, -, X3, ⟨Lc3, hQ3, l3, y3, z3⟩, st3⟩ := Jvm.LawKit.callS X2 hx (y := (⟨"java/util/Arrays", "binarySearch0", "([IIII)I"⟩ : MethodName)) hown (mvT hZ (hw _ (List.mem_of_getElem? (i := 27) rfl))) (mvT hZ (hw _ (List.mem_of_getElem? (i := 28) rfl))) (mvT hZ (hw _ (List.mem_of_getElem? (i := 22) rfl))) (mvT hZ (hw _ (List.mem_of_getElem? (i := 29) rfl))) (by decide) (backOf (W := 0) (rm22 l Z a0 hw [] a1 k1 S lo hi key h0 n0 Z0 V1 h1 h2 hS) hZ (hw _ (List.mem_of_getElem? (i := 29) rfl)) (hw _ (List.mem_of_getElem? (i := 22) rfl)) (by decide) (by decide)) (g := (mkF m 11 #[.val (.ref a1), .val (.int (Int32.ofNat lo)), .val (.int (Int32.ofNat hi)), .val (.int key)] [(.int key), (.int (Int32.ofNat hi)), (.int (Int32.ofNat lo)), (.ref a1)])) rfl (by rw [hml]; rfl) (argsL := [(.ref a1), (.int (Int32.ofNat lo)), (.int (Int32.ofNat hi)), (.int key)]) (rest := []) (lenOf pd_1 rfl) rfl (by show 2 * 0 + _ ≤ _; exact Nat.le_of_eq rfl) (hb hby d23_11) (fun _ _ => ⟨rfl, e2, (by decide : 0 + 0 ≤ _), (by decide : 0 + 0 ≤ _)⟩)
  dsimp only [Pt.U, Pt.locs, Pt.cells, Pt.slots] at X3 l3 y3 z3 st3 hQ3
  subst l3 y3 z3
  obtain ⟨⟨z, rfl, hz⟩, N3q, e3⟩ := hQ3
  have N3 := Fr.app N2 N3q
  refine Gl.st st3 ?_
  show Gl p e below P (T3.setTop (mkF m 14 #[.val (.ref a1), .val (.int (Int32.ofNat lo)), .val (.int (Int32.ofNat hi)), .val (.int key)] [(.int z)]))
  obtain ⟨fs, hr, hrun, hended, hW, hsame⟩ := X3.leave (v := some (.int z)) (fun h => by rw [Bd.returns] at h; cases h)
  refine ⟨_, _, retOut X3 hx Bd.returns rfl (Or.inl ⟨rfl, Or.inl rfl, _, rfl⟩) (hb hby d23_14) hr, hrun, hended, hPost _ _ ⟨_, _, rfl, ?_, ⟨_, rfl⟩, hW, hsame.mono (by decide) (by decide)⟩⟩
  show Q23 Z a1 k1 S lo hi key h0 n0 _ T3.heap _
  rw [e3]
  exact ⟨⟨_, rfl, hz⟩, N3, rfl⟩
theorem pn_24 : plainName "com/example/vendace/vendace/service/SortedArrays" = true := by first | (simp [plainName, overriddenIn]; done) | decide +kernel
theorem ef_24 (m : MethodId) (x0 : Addr) (x1 : Int32) (x2 : Int32) (x3 : Addr) (x4 : Int32) (x5 : Int32) (x6 : Addr) : entryFrame m #[(.ref x0), (.int x1), (.int x2), (.ref x3), (.int x4), (.int x5), (.ref x6)] 10 = mkF m 0 #[.val (.ref x0), .val (.int x1), .val (.int x2), .val (.ref x3), .val (.int x4), .val (.int x5), .val (.ref x6), .unset, .unset, .unset] [] := by first | (simp [entryFrame, mkF, argsToLocals, Value.category]; done) | rfl
def Q24 (Z : State) (aw : Addr) (kw : ClassId) (W : Nat → Int32) (f : Nat) (t : Nat) (as : Addr) (ks : ClassId) (S : Nat → Int32) (lo : Nat) (hi : Nat) (ai : Addr) (ki : ClassId) (g : Nat → Int32) (h0 : Heap) (n0 : Nat) (v : Option Value) (h : Heap) (L : List Loc) : Prop := v = some (.int (Int32.ofNat (own_com W S f t lo hi).length)) ∧ Fr n0 L ∧ Keep h0 h [ai] ∧ Arv Z h ai ki .int (4 : Int32) (own_v4 (own_into (own_com W S f t lo hi) g)) (.int (0 : Int32))
set_option maxRecDepth 65536 in
set_option maxHeartbeats 40000000 in
theorem rm24 (l : Launch) (Z : State) (a0 : Array Value) (hw : ∀ d ∈ tables_1, d.before a0 Z = true) (ws : List Jvm.Cond) (aw : Addr) (kw : ClassId) (W : Nat → Int32) (f : Nat) (t : Nat) (as : Addr) (ks : ClassId) (S : Nat → Int32) (lo : Nat) (hi : Nat) (ai : Addr) (ki : ClassId) (g : Nat → Int32) (h0 : Heap) (n0 : Nat) (Z0 : n0 ≤ h0.size) (VW : Arv Z h0 aw kw .int (4 : Int32) (own_v4 W) (.int (0 : Int32))) (VS : Arv Z h0 as ks .int (4 : Int32) (own_v4 S) (.int (0 : Int32))) (VI : Arv Z h0 ai ki .int (4 : Int32) (own_v4 g) (.int (0 : Int32))) (hf : f ≤ t) (ht : t ≤ 4) (hlo : lo ≤ hi) (hhi : hi ≤ 4) (hW : own_up4 W) (hS : own_up4 S) (nw : aw ≠ ai) (ns : as ≠ ai) (gi : n0 ≤ ai) :
    MetFree l (⟨"com/example/vendace/vendace/service/SortedArrays", "lookUp", "([III[III[I)I"⟩ : MethodName) (head1 (Jvm.Cond.code (⟨"com/example/vendace/vendace/service/SortedArrays", "lookUp", "([III[III[I)I"⟩ : MethodName) prog_23_method_3_code 10 (some .int) :: ws) ({ frames := 2, cells := 0, slots := 0, locals := 34 } : Room)) (fun a U => a = #[(.ref aw), (.int (Int32.ofNat f)), (.int (Int32.ofNat t)), (.ref as), (.int (Int32.ofNat lo)), (.int (Int32.ofNat hi)), (.ref ai)] ∧ Z.Warmed39 U.vm ∧ U.heap = h0) (fun _ _ _ _ _ => True) (fun _ U o U' => ∃ v L, o = .returned v ∧ Q24 Z aw kw W f t as ks S lo hi ai ki g h0 n0 v U'.heap L ∧ FrameEnd U o U' L ({ frames := 2, cells := 0, slots := 0, locals := 34 } : Room).cells ({ frames := 2, cells := 0, slots := 0, locals := 34 } : Room).slots) := by
  refine MetFree.of_bodySF (plainFor_of_name pn_24) hisR ?_
  intro p e s m args below meth c s₁ Bd hml0 hP hK
  obtain ⟨rfl, hZ, hh⟩ := hP
  have hx := Bd.exec
  have hby := Bd.bytes
  have hml : c.maxLocals = 10 := hml0
  have hown : s.vm.findClass "com/example/vendace/vendace/service/SortedArrays" = some m.cls := findClass_of_methodNamed Bd.named
  have hnm := (name_of_methodNamed Bd.named Bd.method).1
  have X0 : Stand p l e ({ frames := 2, cells := 0, slots := 0, locals := 34 } : Room) s m #[(.ref aw), (.int (Int32.ofNat f)), (.int (Int32.ofNat t)), (.ref as), (.int (Int32.ofNat lo)), (.int (Int32.ofNat hi)), (.ref ai)] below meth c s₁ [] 0 0 := Stand.of_body Bd
  have e0 : s₁.heap = h0 := by rw [← hh, Bd.state]; rfl
  have N0 := Fr.nil n0
  refine Gl.gen fun P hPost => ?_
  refine Gl.st (fun _ k => castTop (ef_24 m aw (Int32.ofNat f) (Int32.ofNat t) as (Int32.ofNat lo) (Int32.ofNat hi) ai ) k) ?_
  show Gl p e below P (s₁.setTop (mkF m 0 #[.val (.ref aw), .val (.int (Int32.ofNat f)), .val (.int (Int32.ofNat t)), .val (.ref as), .val (.int (Int32.ofNat lo)), .val (.int (Int32.ofNat hi)), .val (.ref ai), .unset, .unset, .unset] []))
  refine Gl.st (fun _ k => XS.iconst X0.here hx rfl (hb hby d24_0) k) ?_
  show Gl p e below P (s₁.setTop (mkF m 1 #[.val (.ref aw), .val (.int (Int32.ofNat f)), .val (.int (Int32.ofNat t)), .val (.ref as), .val (.int (Int32.ofNat lo)), .val (.int (Int32.ofNat hi)), .val (.ref ai), .unset, .unset, .unset] [(.int (0 : Int32))]))
  refine Gl.st (fun _ k => XS.istore X0.here hx rfl (hb hby d24_1) rfl (l' := #[.val (.ref aw), .val (.int (Int32.ofNat f)), .val (.int (Int32.ofNat t)), .val (.ref as), .val (.int (Int32.ofNat lo)), .val (.int (Int32.ofNat hi)), .val (.ref ai), .val (.int (0 : Int32)), .unset, .unset]) rfl k) ?_
  show Gl p e below P (s₁.setTop (mkF m 3 #[.val (.ref aw), .val (.int (Int32.ofNat f)), .val (.int (Int32.ofNat t)), .val (.ref as), .val (.int (Int32.ofNat lo)), .val (.int (Int32.ofNat hi)), .val (.ref ai), .val (.int (0 : Int32)), .unset, .unset] []))
  refine Gl.st (fun _ k => XS.iloadN X0.here hx rfl (hb hby d24_3) rfl k) ?_
  show Gl p e below P (s₁.setTop (mkF m 4 #[.val (.ref aw), .val (.int (Int32.ofNat f)), .val (.int (Int32.ofNat t)), .val (.ref as), .val (.int (Int32.ofNat lo)), .val (.int (Int32.ofNat hi)), .val (.ref ai), .val (.int (0 : Int32)), .unset, .unset] [(.int (Int32.ofNat f))]))
  refine Gl.st (fun _ k => XS.istore X0.here hx rfl (hb hby d24_4) rfl (l' := #[.val (.ref aw), .val (.int (Int32.ofNat f)), .val (.int (Int32.ofNat t)), .val (.ref as), .val (.int (Int32.ofNat lo)), .val (.int (Int32.ofNat hi)), .val (.ref ai), .val (.int (0 : Int32)), .val (.int (Int32.ofNat f)), .unset]) rfl k) ?_
  show Gl p e below P (s₁.setTop (mkF m 6 #[.val (.ref aw), .val (.int (Int32.ofNat f)), .val (.int (Int32.ofNat t)), .val (.ref as), .val (.int (Int32.ofNat lo)), .val (.int (Int32.ofNat hi)), .val (.ref ai), .val (.int (0 : Int32)), .val (.int (Int32.ofNat f)), .unset] []))
  have LP : ∀ k : Nat, ∀ i : Nat, ∀ lw : Nat, ∀ s9 : Slot, ∀ (T1 : State) (locs1 : List Loc) (h1 : Heap), Stand p l e ({ frames := 2, cells := 0, slots := 0, locals := 34 } : Room) s m #[(.ref aw), (.int (Int32.ofNat f)), (.int (Int32.ofNat t)), (.ref as), (.int (Int32.ofNat lo)), (.int (Int32.ofNat hi)), (.ref ai)] below meth c T1 locs1 0 0 → T1.heap = h1 → Fr n0 locs1 → n0 ≤ h1.size → Arv Z h1 aw kw .int (4 : Int32) (own_v4 W) (.int (0 : Int32)) → Arv Z h1 as ks .int (4 : Int32) (own_v4 S) (.int (0 : Int32)) → Arv Z h1 ai ki .int (4 : Int32) (own_v4 (own_into (own_com W S f i lo hi) g)) (.int (0 : Int32)) → Keep h0 h1 [ai] → One s9 → f ≤ i → i ≤ t → lw ≤ hi → lo ≤ lw → t - i ≤ k → (∀ j, lo ≤ j → j < lw → ∀ x, i ≤ x → x < t → S j < W x) → Gl p e below P (T1.setTop (mkF m 6 #[.val (.ref aw), .val (.int (Int32.ofNat f)), .val (.int (Int32.ofNat t)), .val (.ref as), .val (.int (Int32.ofNat lw)), .val (.int (Int32.ofNat hi)), .val (.ref ai), .val (.int (Int32.ofNat (own_com W S f i lo hi).length)), .val (.int (Int32.ofNat i)), s9] [])) := by
    intro k
    induction k with
    | zero =>
      intro i lw s9 T1 locs1 h1 X1 e1 N1 J1_Z J1_V_aw J1_V_as J1_V_ai J1_K o9 i7 i1 i2 i3 i6 i8
      show Gl p e below P (T1.setTop (mkF m 6 #[.val (.ref aw), .val (.int (Int32.ofNat f)), .val (.int (Int32.ofNat t)), .val (.ref as), .val (.int (Int32.ofNat lw)), .val (.int (Int32.ofNat hi)), .val (.ref ai), .val (.int (Int32.ofNat (own_com W S f i lo hi).length)), .val (.int (Int32.ofNat i)), s9] []))
      refine Gl.st (fun _ k => XS.iload X1.here hx rfl (hb hby d24_6) rfl k) ?_
      show Gl p e below P (T1.setTop (mkF m 8 #[.val (.ref aw), .val (.int (Int32.ofNat f)), .val (.int (Int32.ofNat t)), .val (.ref as), .val (.int (Int32.ofNat lw)), .val (.int (Int32.ofNat hi)), .val (.ref ai), .val (.int (Int32.ofNat (own_com W S f i lo hi).length)), .val (.int (Int32.ofNat i)), s9] [(.int (Int32.ofNat i))]))
      refine Gl.st (fun _ k => XS.iloadN X1.here hx rfl (hb hby d24_8) rfl k) ?_
      show Gl p e below P (T1.setTop (mkF m 9 #[.val (.ref aw), .val (.int (Int32.ofNat f)), .val (.int (Int32.ofNat t)), .val (.ref as), .val (.int (Int32.ofNat lw)), .val (.int (Int32.ofNat hi)), .val (.ref ai), .val (.int (Int32.ofNat (own_com W S f i lo hi).length)), .val (.int (Int32.ofNat i)), s9] [(.int (Int32.ofNat t)), (.int (Int32.ofNat i))]))
      refine Gl.st (fun _ k => XS.icmpYes X1.here hx rfl (pc0 := 9) (pc' := 68) rfl (hb hby d24_9) rfl (flt (fun q => absurd ((own_lt i t (by omega) (by omega)).mp q) (by omega) : ¬ ((Int32.ofNat i) < (Int32.ofNat t)))).2.1 (by decide) (by decide) k) ?_
      show Gl p e below P (T1.setTop (mkF m 68 #[.val (.ref aw), .val (.int (Int32.ofNat f)), .val (.int (Int32.ofNat t)), .val (.ref as), .val (.int (Int32.ofNat lw)), .val (.int (Int32.ofNat hi)), .val (.ref ai), .val (.int (Int32.ofNat (own_com W S f i lo hi).length)), .val (.int (Int32.ofNat i)), s9] []))
      have hit : t = i := by omega
      refine Gl.st (fun _ k => XS.iload X1.here hx rfl (hb hby d24_68) rfl k) ?_
      show Gl p e below P (T1.setTop (mkF m 70 #[.val (.ref aw), .val (.int (Int32.ofNat f)), .val (.int (Int32.ofNat t)), .val (.ref as), .val (.int (Int32.ofNat lw)), .val (.int (Int32.ofNat hi)), .val (.ref ai), .val (.int (Int32.ofNat (own_com W S f i lo hi).length)), .val (.int (Int32.ofNat i)), s9] [(.int (Int32.ofNat (own_com W S f i lo hi).length))]))
      obtain ⟨fs, hr, hrun, hended, hW, hsame⟩ := X1.leave (v := some (.int (Int32.ofNat (own_com W S f i lo hi).length))) (fun h => by rw [Bd.returns] at h; cases h)
      refine ⟨_, _, retOut X1 hx Bd.returns rfl (Or.inl ⟨rfl, Or.inl rfl, _, rfl⟩) (hb hby d24_70) hr, hrun, hended, hPost _ _ ⟨_, _, rfl, ?_, ⟨_, rfl⟩, hW, hsame.mono (by decide) (by decide)⟩⟩
      show Q24 Z aw kw W f t as ks S lo hi ai ki g h0 n0 _ T1.heap _
      rw [e1]
      exact (by rw [hit]; exact ⟨rfl, N1, J1_K, J1_V_ai⟩)
    | succ k ih =>
      intro i lw s9 T1 locs1 h1 X1 e1 N1 J1_Z J1_V_aw J1_V_as J1_V_ai J1_K o9 i7 i1 i2 i3 i6 i8
      show Gl p e below P (T1.setTop (mkF m 6 #[.val (.ref aw), .val (.int (Int32.ofNat f)), .val (.int (Int32.ofNat t)), .val (.ref as), .val (.int (Int32.ofNat lw)), .val (.int (Int32.ofNat hi)), .val (.ref ai), .val (.int (Int32.ofNat (own_com W S f i lo hi).length)), .val (.int (Int32.ofNat i)), s9] []))
      refine Gl.st (fun _ k => XS.iload X1.here hx rfl (hb hby d24_6) rfl k) ?_
      show Gl p e below P (T1.setTop (mkF m 8 #[.val (.ref aw), .val (.int (Int32.ofNat f)), .val (.int (Int32.ofNat t)), .val (.ref as), .val (.int (Int32.ofNat lw)), .val (.int (Int32.ofNat hi)), .val (.ref ai), .val (.int (Int32.ofNat (own_com W S f i lo hi).length)), .val (.int (Int32.ofNat i)), s9] [(.int (Int32.ofNat i))]))
      refine Gl.st (fun _ k => XS.iloadN X1.here hx rfl (hb hby d24_8) rfl k) ?_
      show Gl p e below P (T1.setTop (mkF m 9 #[.val (.ref aw), .val (.int (Int32.ofNat f)), .val (.int (Int32.ofNat t)), .val (.ref as), .val (.int (Int32.ofNat lw)), .val (.int (Int32.ofNat hi)), .val (.ref ai), .val (.int (Int32.ofNat (own_com W S f i lo hi).length)), .val (.int (Int32.ofNat i)), s9] [(.int (Int32.ofNat t)), (.int (Int32.ofNat i))]))
      by_cases hc : i < t
      · refine Gl.st (fun _ k => XS.icmpNo X1.here hx rfl (hb hby d24_9) rfl (tlt ((own_lt i t (by omega) (by omega)).mpr hc : (Int32.ofNat i) < (Int32.ofNat t))).2.1 k) ?_
        show Gl p e below P (T1.setTop (mkF m 12 #[.val (.ref aw), .val (.int (Int32.ofNat f)), .val (.int (Int32.ofNat t)), .val (.ref as), .val (.int (Int32.ofNat lw)), .val (.int (Int32.ofNat hi)), .val (.ref ai), .val (.int (Int32.ofNat (own_com W S f i lo hi).length)), .val (.int (Int32.ofNat i)), s9] []))
        refine Gl.st (fun _ k => XS.aloadN X1.here hx rfl (hb hby d24_12) rfl rfl k) ?_
        show Gl p e below P (T1.setTop (mkF m 13 #[.val (.ref aw), .val (.int (Int32.ofNat f)), .val (.int (Int32.ofNat t)), .val (.ref as), .val (.int (Int32.ofNat lw)), .val (.int (Int32.ofNat hi)), .val (.ref ai), .val (.int (Int32.ofNat (own_com W S f i lo hi).length)), .val (.int (Int32.ofNat i)), s9] [(.ref as)]))
        refine Gl.st (fun _ k => XS.iload X1.here hx rfl (hb hby d24_13) rfl k) ?_
        show Gl p e below P (T1.setTop (mkF m 15 #[.val (.ref aw), .val (.int (Int32.ofNat f)), .val (.int (Int32.ofNat t)), .val (.ref as), .val (.int (Int32.ofNat lw)), .val (.int (Int32.ofNat hi)), .val (.ref ai), .val (.int (Int32.ofNat (own_com W S f i lo hi).length)), .val (.int (Int32.ofNat i)), s9] [(.int (Int32.ofNat lw)), (.ref as)]))
        refine Gl.st (fun _ k => XS.iload X1.here hx rfl (hb hby d24_15) rfl k) ?_
        show Gl p e below P (T1.setTop (mkF m 17 #[.val (.ref aw), .val (.int (Int32.ofNat f)), .val (.int (Int32.ofNat t)), .val (.ref as), .val (.int (Int32.ofNat lw)), .val (.int (Int32.ofNat hi)), .val (.ref ai), .val (.int (Int32.ofNat (own_com W S f i lo hi).length)), .val (.int (Int32.ofNat i)), s9] [(.int (Int32.ofNat hi)), (.int (Int32.ofNat lw)), (.ref as)]))
        refine Gl.st (fun _ k => XS.aloadN X1.here hx rfl (hb hby d24_17) rfl rfl k) ?_
        show Gl p e below P (T1.setTop (mkF m 18 #[.val (.ref aw), .val (.int (Int32.ofNat f)), .val (.int (Int32.ofNat t)), .val (.ref as), .val (.int (Int32.ofNat lw)), .val (.int (Int32.ofNat hi)), .val (.ref ai), .val (.int (Int32.ofNat (own_com W S f i lo hi).length)), .val (.int (Int32.ofNat i)), s9] [(.ref aw), (.int (Int32.ofNat hi)), (.int (Int32.ofNat lw)), (.ref as)]))
        refine Gl.st (fun _ k => XS.iload X1.here hx rfl (hb hby d24_18) rfl k) ?_
        show Gl p e below P (T1.setTop (mkF m 20 #[.val (.ref aw), .val (.int (Int32.ofNat f)), .val (.int (Int32.ofNat t)), .val (.ref as), .val (.int (Int32.ofNat lw)), .val (.int (Int32.ofNat hi)), .val (.ref ai), .val (.int (Int32.ofNat (own_com W S f i lo hi).length)), .val (.int (Int32.ofNat i)), s9] [(.int (Int32.ofNat i)), (.ref aw), (.int (Int32.ofNat hi)), (.int (Int32.ofNat lw)), (.ref as)]))
        obtain ⟨c2, Ar2, q2, S2, M2, H2, U2⟩ := id J1_V_aw
        have hin2 : ¬ ((Int32.ofNat i) < 0 ∨ c2.slots.size ≤ ((Int32.ofNat i)).toNatClampNeg) := inb_of S2 ⟨(own_neg i (by omega)), (own_lt4 i (by omega))⟩
        have hat2 : c2.slots[((Int32.ofNat i)).toNatClampNeg]? = some (.int (W i)) := H2.at hin2 (by rw [own_nn i (by omega)]; exact own_get4 W i (by omega))
        refine Gl.st (X1.iaload hx (j := (Int32.ofNat i)) (v := (.int (W i))) (by rw [e1]; exact Ar2.1) (State.isArrayOf_alike hZ.alike Ar2.2.1) Ar2.2.2 hin2 hat2 (g := (mkF m 20 #[.val (.ref aw), .val (.int (Int32.ofNat f)), .val (.int (Int32.ofNat t)), .val (.ref as), .val (.int (Int32.ofNat lw)), .val (.int (Int32.ofNat hi)), .val (.ref ai), .val (.int (Int32.ofNat (own_com W S f i lo hi).length)), .val (.int (Int32.ofNat i)), s9] [(.int (Int32.ofNat i)), (.ref aw), (.int (Int32.ofNat hi)), (.int (Int32.ofNat lw)), (.ref as)])) rfl rfl (hb hby d24_20)) ?_
        show Gl p e below P (T1.setTop (mkF m 21 #[.val (.ref aw), .val (.int (Int32.ofNat f)), .val (.int (Int32.ofNat t)), .val (.ref as), .val (.int (Int32.ofNat lw)), .val (.int (Int32.ofNat hi)), .val (.ref ai), .val (.int (Int32.ofNat (own_com W S f i lo hi).length)), .val (.int (Int32.ofNat i)), s9] [(.int (W i)), (.int (Int32.ofNat hi)), (.int (Int32.ofNat lw)), (.ref as)]))
        obtain ⟨_, _, ⟨T3, L3, k3, n3⟩, -, X3, ⟨Lc3, hQ3, l3, y3, z3⟩, st3⟩ := Jvm.LawKit.callS X1 hx (y := (⟨"java/util/Arrays", "binarySearch", "([IIII)I"⟩ : MethodName)) hown (mvT hZ (hw _ (List.mem_of_getElem? (i := 20) rfl))) (mvT hZ (hw _ (List.mem_of_getElem? (i := 21) rfl))) (mvT hZ (hw _ (List.mem_of_getElem? (i := 22) rfl))) (mvT hZ (hw _ (List.mem_of_getElem? (i := 23) rfl))) (by decide) (backOf (W := 0) (rm23 l Z a0 hw [] as ks S lw hi (W i) h1 n0 J1_Z J1_V_as i2 hhi hS) hZ (hw _ (List.mem_of_getElem? (i := 23) rfl)) (hw _ (List.mem_of_getElem? (i := 22) rfl)) (by decide) (by decide)) (g := (mkF m 21 #[.val (.ref aw), .val (.int (Int32.ofNat f)), .val (.int (Int32.ofNat t)), .val (.ref as), .val (.int (Int32.ofNat lw)), .val (.int (Int32.ofNat hi)), .val (.ref ai), .val (.int (Int32.ofNat (own_com W S f i lo hi).length)), .val (.int (Int32.ofNat i)), s9] [(.int (W i)), (.int (Int32.ofNat hi)), (.int (Int32.ofNat lw)), (.ref as)])) rfl (by rw [hml]; rfl) (argsL := [(.ref as), (.int (Int32.ofNat lw)), (.int (Int32.ofNat hi)), (.int (W i))]) (rest := []) (lenOf pd_1 rfl) rfl (by show 2 * 0 + _ ≤ _; exact Nat.le_of_eq rfl) (hb hby d24_21) (fun _ _ => ⟨rfl, e1, (by decide : 0 + 0 ≤ _), (by decide : 0 + 0 ≤ _)⟩)
        dsimp only [Pt.U, Pt.locs, Pt.cells, Pt.slots] at X3 l3 y3 z3 st3 hQ3
        subst l3 y3 z3
        obtain ⟨⟨z, rfl, hz⟩, N3q, e3⟩ := hQ3
        have N3 := Fr.app N1 N3q
        refine Gl.st st3 ?_
        show Gl p e below P (T3.setTop (mkF m 24 #[.val (.ref aw), .val (.int (Int32.ofNat f)), .val (.int (Int32.ofNat t)), .val (.ref as), .val (.int (Int32.ofNat lw)), .val (.int (Int32.ofNat hi)), .val (.ref ai), .val (.int (Int32.ofNat (own_com W S f i lo hi).length)), .val (.int (Int32.ofNat i)), s9] [(.int z)]))
        rcases hz with ⟨k2, a1, a2, rfl, a4⟩ | ⟨k2, a1, a2, rfl, a4, a5⟩
        · show Gl p e below P (T3.setTop (mkF m 24 #[.val (.ref aw), .val (.int (Int32.ofNat f)), .val (.int (Int32.ofNat t)), .val (.ref as), .val (.int (Int32.ofNat lw)), .val (.int (Int32.ofNat hi)), .val (.ref ai), .val (.int (Int32.ofNat (own_com W S f i lo hi).length)), .val (.int (Int32.ofNat i)), s9] [(.int (Int32.ofNat k2))]))
          refine Gl.st (fun _ k => XS.istore X3.here hx rfl (hb hby d24_24) rfl (l' := #[.val (.ref aw), .val (.int (Int32.ofNat f)), .val (.int (Int32.ofNat t)), .val (.ref as), .val (.int (Int32.ofNat lw)), .val (.int (Int32.ofNat hi)), .val (.ref ai), .val (.int (Int32.ofNat (own_com W S f i lo hi).length)), .val (.int (Int32.ofNat i)), .val (.int (Int32.ofNat k2))]) (XS.store1 (i := 9) (v := (.int (Int32.ofNat k2))) rfl o9 rfl) k) ?_
          show Gl p e below P (T3.setTop (mkF m 26 #[.val (.ref aw), .val (.int (Int32.ofNat f)), .val (.int (Int32.ofNat t)), .val (.ref as), .val (.int (Int32.ofNat lw)), .val (.int (Int32.ofNat hi)), .val (.ref ai), .val (.int (Int32.ofNat (own_com W S f i lo hi).length)), .val (.int (Int32.ofNat i)), .val (.int (Int32.ofNat k2))] []))
          refine Gl.st (fun _ k => XS.iload X3.here hx rfl (hb hby d24_26) rfl k) ?_
          show Gl p e below P (T3.setTop (mkF m 28 #[.val (.ref aw), .val (.int (Int32.ofNat f)), .val (.int (Int32.ofNat t)), .val (.ref as), .val (.int (Int32.ofNat lw)), .val (.int (Int32.ofNat hi)), .val (.ref ai), .val (.int (Int32.ofNat (own_com W S f i lo hi).length)), .val (.int (Int32.ofNat i)), .val (.int (Int32.ofNat k2))] [(.int (Int32.ofNat k2))]))
          refine Gl.st (fun _ k => XS.ifNo X3.here hx rfl (hb hby d24_28) rfl ((if0 _ _).trans (flt (own_neg k2 (by omega) : ¬ ((Int32.ofNat k2) < (0 : Int32)))).1) k) ?_
          show Gl p e below P (T3.setTop (mkF m 31 #[.val (.ref aw), .val (.int (Int32.ofNat f)), .val (.int (Int32.ofNat t)), .val (.ref as), .val (.int (Int32.ofNat lw)), .val (.int (Int32.ofNat hi)), .val (.ref ai), .val (.int (Int32.ofNat (own_com W S f i lo hi).length)), .val (.int (Int32.ofNat i)), .val (.int (Int32.ofNat k2))] []))
          refine Gl.st (fun _ k => XS.aload X3.here hx rfl (hb hby d24_31) rfl rfl k) ?_
          show Gl p e below P (T3.setTop (mkF m 33 #[.val (.ref aw), .val (.int (Int32.ofNat f)), .val (.int (Int32.ofNat t)), .val (.ref as), .val (.int (Int32.ofNat lw)), .val (.int (Int32.ofNat hi)), .val (.ref ai), .val (.int (Int32.ofNat (own_com W S f i lo hi).length)), .val (.int (Int32.ofNat i)), .val (.int (Int32.ofNat k2))] [(.ref ai)]))
          refine Gl.st (fun _ k => XS.iload X3.here hx rfl (hb hby d24_33) rfl k) ?_
          show Gl p e below P (T3.setTop (mkF m 35 #[.val (.ref aw), .val (.int (Int32.ofNat f)), .val (.int (Int32.ofNat t)), .val (.ref as), .val (.int (Int32.ofNat lw)), .val (.int (Int32.ofNat hi)), .val (.ref ai), .val (.int (Int32.ofNat (own_com W S f i lo hi).length)), .val (.int (Int32.ofNat i)), .val (.int (Int32.ofNat k2))] [(.int (Int32.ofNat (own_com W S f i lo hi).length)), (.ref ai)]))
          have cl := own_com_len W S f i lo hi
          refine Gl.st (fun _ k => XS.iinc X3.here hx rfl (hb hby d24_35) rfl (l' := #[.val (.ref aw), .val (.int (Int32.ofNat f)), .val (.int (Int32.ofNat t)), .val (.ref as), .val (.int (Int32.ofNat lw)), .val (.int (Int32.ofNat hi)), .val (.ref ai), .val (.int ((Int32.ofNat (own_com W S f i lo hi).length) + (1 : Int32))), .val (.int (Int32.ofNat i)), .val (.int (Int32.ofNat k2))]) rfl k) ?_
          show Gl p e below P (T3.setTop (mkF m 38 #[.val (.ref aw), .val (.int (Int32.ofNat f)), .val (.int (Int32.ofNat t)), .val (.ref as), .val (.int (Int32.ofNat lw)), .val (.int (Int32.ofNat hi)), .val (.ref ai), .val (.int ((Int32.ofNat (own_com W S f i lo hi).length) + (1 : Int32))), .val (.int (Int32.ofNat i)), .val (.int (Int32.ofNat k2))] [(.int (Int32.ofNat (own_com W S f i lo hi).length)), (.ref ai)]))
          refine Gl.st (fun _ k => XS.aloadN X3.here hx rfl (hb hby d24_38) rfl rfl k) ?_
          show Gl p e below P (T3.setTop (mkF m 39 #[.val (.ref aw), .val (.int (Int32.ofNat f)), .val (.int (Int32.ofNat t)), .val (.ref as), .val (.int (Int32.ofNat lw)), .val (.int (Int32.ofNat hi)), .val (.ref ai), .val (.int ((Int32.ofNat (own_com W S f i lo hi).length) + (1 : Int32))), .val (.int (Int32.ofNat i)), .val (.int (Int32.ofNat k2))] [(.ref aw), (.int (Int32.ofNat (own_com W S f i lo hi).length)), (.ref ai)]))
          refine Gl.st (fun _ k => XS.iload X3.here hx rfl (hb hby d24_39) rfl k) ?_
          show Gl p e below P (T3.setTop (mkF m 41 #[.val (.ref aw), .val (.int (Int32.ofNat f)), .val (.int (Int32.ofNat t)), .val (.ref as), .val (.int (Int32.ofNat lw)), .val (.int (Int32.ofNat hi)), .val (.ref ai), .val (.int ((Int32.ofNat (own_com W S f i lo hi).length) + (1 : Int32))), .val (.int (Int32.ofNat i)), .val (.int (Int32.ofNat k2))] [(.int (Int32.ofNat i)), (.ref aw), (.int (Int32.ofNat (own_com W S f i lo hi).length)), (.ref ai)]))
          obtain ⟨c4, Ar4, q4, S4, M4, H4, U4⟩ := id J1_V_aw
          have hin4 : ¬ ((Int32.ofNat i) < 0 ∨ c4.slots.size ≤ ((Int32.ofNat i)).toNatClampNeg) := inb_of S4 ⟨(own_neg i (by omega)), (own_lt4 i (by omega))⟩
          have hat4 : c4.slots[((Int32.ofNat i)).toNatClampNeg]? = some (.int (W i)) := H4.at hin4 (by rw [own_nn i (by omega)]; exact own_get4 W i (by omega))
          refine Gl.st (X3.iaload hx (j := (Int32.ofNat i)) (v := (.int (W i))) (by rw [e3]; exact Ar4.1) (State.isArrayOf_alike hZ.alike Ar4.2.1) Ar4.2.2 hin4 hat4 (g := (mkF m 41 #[.val (.ref aw), .val (.int (Int32.ofNat f)), .val (.int (Int32.ofNat t)), .val (.ref as), .val (.int (Int32.ofNat lw)), .val (.int (Int32.ofNat hi)), .val (.ref ai), .val (.int ((Int32.ofNat (own_com W S f i lo hi).length) + (1 : Int32))), .val (.int (Int32.ofNat i)), .val (.int (Int32.ofNat k2))] [(.int (Int32.ofNat i)), (.ref aw), (.int (Int32.ofNat (own_com W S f i lo hi).length)), (.ref ai)])) rfl rfl (hb hby d24_41)) ?_
          show Gl p e below P (T3.setTop (mkF m 42 #[.val (.ref aw), .val (.int (Int32.ofNat f)), .val (.int (Int32.ofNat t)), .val (.ref as), .val (.int (Int32.ofNat lw)), .val (.int (Int32.ofNat hi)), .val (.ref ai), .val (.int ((Int32.ofNat (own_com W S f i lo hi).length) + (1 : Int32))), .val (.int (Int32.ofNat i)), .val (.int (Int32.ofNat k2))] [(.int (W i)), (.int (Int32.ofNat (own_com W S f i lo hi).length)), (.ref ai)]))
          have hin : own_in S lo hi (W i) = true := (own_in_iff hhi).mpr ⟨k2, by omega, a2, a4⟩
          have hnx := own_com_in (W := W) (S := S) (f := f) (i := i) (lo := lo) (hi := hi) i7 hin
          obtain ⟨c5, Ar5, q5, S5, M5, H5, U5⟩ := id J1_V_ai
          obtain ⟨T6, h6, X6, e6, W6, st6⟩ := stI X3 hx hZ e3 Ar5 (j := (Int32.ofNat (own_com W S f i lo hi).length)) (inb_of S5 ⟨own_neg _ (by omega), own_lt4 _ (by omega)⟩) (g := (mkF m 42 #[.val (.ref aw), .val (.int (Int32.ofNat f)), .val (.int (Int32.ofNat t)), .val (.ref as), .val (.int (Int32.ofNat lw)), .val (.int (Int32.ofNat hi)), .val (.ref ai), .val (.int ((Int32.ofNat (own_com W S f i lo hi).length) + (1 : Int32))), .val (.int (Int32.ofNat i)), .val (.int (Int32.ofNat k2))] [(.int (W i)), (.int (Int32.ofNat (own_com W S f i lo hi).length)), (.ref ai)])) rfl rfl (hb hby d24_42)
          refine Gl.st st6 ?_
          have J1_Z_v6 : n0 ≤ h6.size := Nat.le_trans J1_Z (Keep.of_wr W6).1
          have J1_V_aw_v6 : Arv Z h6 aw kw .int (4 : Int32) (own_v4 W) (.int (0 : Int32)) := J1_V_aw.other W6 nw
          have J1_V_as_v6 : Arv Z h6 as ks .int (4 : Int32) (own_v4 S) (.int (0 : Int32)) := J1_V_as.other W6 ns
          have J1_K_v6 : Keep h0 h6 [ai] := J1_K.wr W6 (Or.inl (List.mem_of_getElem? (i := 0) rfl))
          have VN : Arv Z h6 ai ki .int (4 : Int32) ((own_v4 (own_into (own_com W S f i lo hi) g)).set (own_com W S f i lo hi).length (.int (W i))) (.int (0 : Int32)) := Arv.set Ar5 q5 S5 M5 H5 U5 rfl W6 _ (own_nn _ (by omega)) (show _ < 4 by omega)
          rw [own_set4 _ _ (by omega), own_into_snoc, ← hnx] at VN
          have N6 := Fr.snoc X6 N3 gi
          show Gl p e below P (T6.setTop (mkF m 43 #[.val (.ref aw), .val (.int (Int32.ofNat f)), .val (.int (Int32.ofNat t)), .val (.ref as), .val (.int (Int32.ofNat lw)), .val (.int (Int32.ofNat hi)), .val (.ref ai), .val (.int ((Int32.ofNat (own_com W S f i lo hi).length) + (1 : Int32))), .val (.int (Int32.ofNat i)), .val (.int (Int32.ofNat k2))] []))
          refine Gl.st (fun _ k => XS.iload X6.here hx rfl (hb hby d24_43) rfl k) ?_
          show Gl p e below P (T6.setTop (mkF m 45 #[.val (.ref aw), .val (.int (Int32.ofNat f)), .val (.int (Int32.ofNat t)), .val (.ref as), .val (.int (Int32.ofNat lw)), .val (.int (Int32.ofNat hi)), .val (.ref ai), .val (.int ((Int32.ofNat (own_com W S f i lo hi).length) + (1 : Int32))), .val (.int (Int32.ofNat i)), .val (.int (Int32.ofNat k2))] [(.int (Int32.ofNat k2))]))
          refine Gl.st (fun _ k => XS.ifNo X6.here hx rfl (hb hby d24_45) rfl ((if0 _ _).trans (flt (own_neg k2 (by omega) : ¬ ((Int32.ofNat k2) < (0 : Int32)))).1) k) ?_
          show Gl p e below P (T6.setTop (mkF m 48 #[.val (.ref aw), .val (.int (Int32.ofNat f)), .val (.int (Int32.ofNat t)), .val (.ref as), .val (.int (Int32.ofNat lw)), .val (.int (Int32.ofNat hi)), .val (.ref ai), .val (.int ((Int32.ofNat (own_com W S f i lo hi).length) + (1 : Int32))), .val (.int (Int32.ofNat i)), .val (.int (Int32.ofNat k2))] []))
          refine Gl.st (fun _ k => XS.iload X6.here hx rfl (hb hby d24_48) rfl k) ?_
          show Gl p e below P (T6.setTop (mkF m 50 #[.val (.ref aw), .val (.int (Int32.ofNat f)), .val (.int (Int32.ofNat t)), .val (.ref as), .val (.int (Int32.ofNat lw)), .val (.int (Int32.ofNat hi)), .val (.ref ai), .val (.int ((Int32.ofNat (own_com W S f i lo hi).length) + (1 : Int32))), .val (.int (Int32.ofNat i)), .val (.int (Int32.ofNat k2))] [(.int (Int32.ofNat k2))]))
          refine Gl.st (fun _ k => XS.iconst X6.here hx rfl (hb hby d24_50) k) ?_
          show Gl p e below P (T6.setTop (mkF m 51 #[.val (.ref aw), .val (.int (Int32.ofNat f)), .val (.int (Int32.ofNat t)), .val (.ref as), .val (.int (Int32.ofNat lw)), .val (.int (Int32.ofNat hi)), .val (.ref ai), .val (.int ((Int32.ofNat (own_com W S f i lo hi).length) + (1 : Int32))), .val (.int (Int32.ofNat i)), .val (.int (Int32.ofNat k2))] [(.int (1 : Int32)), (.int (Int32.ofNat k2))]))
          refine Gl.st (fun _ k => XS.iadd X6.here hx rfl (hb hby d24_51) rfl k) ?_
          show Gl p e below P (T6.setTop (mkF m 52 #[.val (.ref aw), .val (.int (Int32.ofNat f)), .val (.int (Int32.ofNat t)), .val (.ref as), .val (.int (Int32.ofNat lw)), .val (.int (Int32.ofNat hi)), .val (.ref ai), .val (.int ((Int32.ofNat (own_com W S f i lo hi).length) + (1 : Int32))), .val (.int (Int32.ofNat i)), .val (.int (Int32.ofNat k2))] [(.int ((Int32.ofNat k2) + (1 : Int32)))]))
          rw [show ((Int32.ofNat k2) + (1 : Int32)) = (Int32.ofNat (k2 + 1)) from own_s k2]
          show Gl p e below P (T6.setTop (mkF m 52 #[.val (.ref aw), .val (.int (Int32.ofNat f)), .val (.int (Int32.ofNat t)), .val (.ref as), .val (.int (Int32.ofNat lw)), .val (.int (Int32.ofNat hi)), .val (.ref ai), .val (.int ((Int32.ofNat (own_com W S f i lo hi).length) + (1 : Int32))), .val (.int (Int32.ofNat i)), .val (.int (Int32.ofNat k2))] [(.int (Int32.ofNat (k2 + 1)))]))
          refine Gl.st (fun _ k => XS.goto X6.here hx rfl (pc0 := 52) (pc' := 60) rfl (hb hby d24_52) (by decide) (by decide) k) ?_
          show Gl p e below P (T6.setTop (mkF m 60 #[.val (.ref aw), .val (.int (Int32.ofNat f)), .val (.int (Int32.ofNat t)), .val (.ref as), .val (.int (Int32.ofNat lw)), .val (.int (Int32.ofNat hi)), .val (.ref ai), .val (.int ((Int32.ofNat (own_com W S f i lo hi).length) + (1 : Int32))), .val (.int (Int32.ofNat i)), .val (.int (Int32.ofNat k2))] [(.int (Int32.ofNat (k2 + 1)))]))
          refine Gl.st (fun _ k => XS.istore X6.here hx rfl (hb hby d24_60) rfl (l' := #[.val (.ref aw), .val (.int (Int32.ofNat f)), .val (.int (Int32.ofNat t)), .val (.ref as), .val (.int (Int32.ofNat (k2 + 1))), .val (.int (Int32.ofNat hi)), .val (.ref ai), .val (.int ((Int32.ofNat (own_com W S f i lo hi).length) + (1 : Int32))), .val (.int (Int32.ofNat i)), .val (.int (Int32.ofNat k2))]) rfl k) ?_
          show Gl p e below P (T6.setTop (mkF m 62 #[.val (.ref aw), .val (.int (Int32.ofNat f)), .val (.int (Int32.ofNat t)), .val (.ref as), .val (.int (Int32.ofNat (k2 + 1))), .val (.int (Int32.ofNat hi)), .val (.ref ai), .val (.int ((Int32.ofNat (own_com W S f i lo hi).length) + (1 : Int32))), .val (.int (Int32.ofNat i)), .val (.int (Int32.ofNat k2))] []))
          refine Gl.st (fun _ k => XS.iinc X6.here hx rfl (hb hby d24_62) rfl (l' := #[.val (.ref aw), .val (.int (Int32.ofNat f)), .val (.int (Int32.ofNat t)), .val (.ref as), .val (.int (Int32.ofNat (k2 + 1))), .val (.int (Int32.ofNat hi)), .val (.ref ai), .val (.int ((Int32.ofNat (own_com W S f i lo hi).length) + (1 : Int32))), .val (.int ((Int32.ofNat i) + (1 : Int32))), .val (.int (Int32.ofNat k2))]) rfl k) ?_
          show Gl p e below P (T6.setTop (mkF m 65 #[.val (.ref aw), .val (.int (Int32.ofNat f)), .val (.int (Int32.ofNat t)), .val (.ref as), .val (.int (Int32.ofNat (k2 + 1))), .val (.int (Int32.ofNat hi)), .val (.ref ai), .val (.int ((Int32.ofNat (own_com W S f i lo hi).length) + (1 : Int32))), .val (.int ((Int32.ofNat i) + (1 : Int32))), .val (.int (Int32.ofNat k2))] []))
          refine Gl.st (fun _ k => XS.goto X6.here hx rfl (pc0 := 65) (pc' := 6) rfl (hb hby d24_65) (by decide) (by decide) k) ?_
          show Gl p e below P (T6.setTop (mkF m 6 #[.val (.ref aw), .val (.int (Int32.ofNat f)), .val (.int (Int32.ofNat t)), .val (.ref as), .val (.int (Int32.ofNat (k2 + 1))), .val (.int (Int32.ofNat hi)), .val (.ref ai), .val (.int ((Int32.ofNat (own_com W S f i lo hi).length) + (1 : Int32))), .val (.int ((Int32.ofNat i) + (1 : Int32))), .val (.int (Int32.ofNat k2))] []))
          have hlen : Int32.ofNat (own_com W S f i lo hi).length + (1 : Int32) = Int32.ofNat (own_com W S f (i + 1) lo hi).length := by rw [own_s, hnx, List.length_append]; rfl
          rw [hlen, own_s i]
          show Gl p e below P (T6.setTop (mkF m 6 #[.val (.ref aw), .val (.int (Int32.ofNat f)), .val (.int (Int32.ofNat t)), .val (.ref as), .val (.int (Int32.ofNat (k2 + 1))), .val (.int (Int32.ofNat hi)), .val (.ref ai), .val (.int (Int32.ofNat (own_com W S f (i + 1) lo hi).length)), .val (.int (Int32.ofNat (i + 1))), .val (.int (Int32.ofNat k2))] []))
          exact ih (i + 1) (k2 + 1) _ T6 _ _ (X6.mono (by decide) (by decide)) e6 N6 J1_Z_v6 J1_V_aw_v6 J1_V_as_v6 VN J1_K_v6 (One.val rfl) (by omega) (by omega) (by omega) (by omega) (by omega) (fun j q1 q2 x q3 q4 => by by_cases q : j < k2; exact own_tr (a4 ▸ hS j k2 q (by omega)) (hW i x (by omega) (by omega)); exact (show j = k2 by omega) ▸ a4 ▸ hW i x (by omega) (by omega))
        · show Gl p e below P (T3.setTop (mkF m 24 #[.val (.ref aw), .val (.int (Int32.ofNat f)), .val (.int (Int32.ofNat t)), .val (.ref as), .val (.int (Int32.ofNat lw)), .val (.int (Int32.ofNat hi)), .val (.ref ai), .val (.int (Int32.ofNat (own_com W S f i lo hi).length)), .val (.int (Int32.ofNat i)), s9] [(.int (-((Int32.ofNat k2) + (1 : Int32))))]))
          refine Gl.st (fun _ k => XS.istore X3.here hx rfl (hb hby d24_24) rfl (l' := #[.val (.ref aw), .val (.int (Int32.ofNat f)), .val (.int (Int32.ofNat t)), .val (.ref as), .val (.int (Int32.ofNat lw)), .val (.int (Int32.ofNat hi)), .val (.ref ai), .val (.int (Int32.ofNat (own_com W S f i lo hi).length)), .val (.int (Int32.ofNat i)), .val (.int (-((Int32.ofNat k2) + (1 : Int32))))]) (XS.store1 (i := 9) (v := (.int (-((Int32.ofNat k2) + (1 : Int32))))) rfl o9 rfl) k) ?_
          show Gl p e below P (T3.setTop (mkF m 26 #[.val (.ref aw), .val (.int (Int32.ofNat f)), .val (.int (Int32.ofNat t)), .val (.ref as), .val (.int (Int32.ofNat lw)), .val (.int (Int32.ofNat hi)), .val (.ref ai), .val (.int (Int32.ofNat (own_com W S f i lo hi).length)), .val (.int (Int32.ofNat i)), .val (.int (-((Int32.ofNat k2) + (1 : Int32))))] []))
          refine Gl.st (fun _ k => XS.iload X3.here hx rfl (hb hby d24_26) rfl k) ?_
          show Gl p e below P (T3.setTop (mkF m 28 #[.val (.ref aw), .val (.int (Int32.ofNat f)), .val (.int (Int32.ofNat t)), .val (.ref as), .val (.int (Int32.ofNat lw)), .val (.int (Int32.ofNat hi)), .val (.ref ai), .val (.int (Int32.ofNat (own_com W S f i lo hi).length)), .val (.int (Int32.ofNat i)), .val (.int (-((Int32.ofNat k2) + (1 : Int32))))] [(.int (-((Int32.ofNat k2) + (1 : Int32))))]))
          refine Gl.st (fun _ k => XS.ifYes X3.here hx rfl (pc0 := 28) (pc' := 43) rfl (hb hby d24_28) rfl ((if0 _ _).trans (tlt (own_nf k2 (by omega) : (-((Int32.ofNat k2) + (1 : Int32))) < (0 : Int32))).1) (by decide) (by decide) k) ?_
          show Gl p e below P (T3.setTop (mkF m 43 #[.val (.ref aw), .val (.int (Int32.ofNat f)), .val (.int (Int32.ofNat t)), .val (.ref as), .val (.int (Int32.ofNat lw)), .val (.int (Int32.ofNat hi)), .val (.ref ai), .val (.int (Int32.ofNat (own_com W S f i lo hi).length)), .val (.int (Int32.ofNat i)), .val (.int (-((Int32.ofNat k2) + (1 : Int32))))] []))
          have hout : ¬ (f ≤ i ∧ own_in S lo hi (W i) = true) := fun q => by
            obtain ⟨j, b1, b2, b3⟩ := (own_in_iff hhi).mp q.2
            by_cases c1 : j < lw
            · exact own_ir (i8 j b1 c1 i (Nat.le_refl _) hc) b3
            · by_cases c2 : j < k2
              · exact own_ir (a4 j (by omega) c2) b3
              · exact own_ir (a5 j (by omega) b2) b3.symm
          have hnx := own_com_out (W := W) (S := S) (f := f) (i := i) (lo := lo) (hi := hi) hout
          refine Gl.st (fun _ k => XS.iload X3.here hx rfl (hb hby d24_43) rfl k) ?_
          show Gl p e below P (T3.setTop (mkF m 45 #[.val (.ref aw), .val (.int (Int32.ofNat f)), .val (.int (Int32.ofNat t)), .val (.ref as), .val (.int (Int32.ofNat lw)), .val (.int (Int32.ofNat hi)), .val (.ref ai), .val (.int (Int32.ofNat (own_com W S f i lo hi).length)), .val (.int (Int32.ofNat i)), .val (.int (-((Int32.ofNat k2) + (1 : Int32))))] [(.int (-((Int32.ofNat k2) + (1 : Int32))))]))
          refine Gl.st (fun _ k => XS.ifYes X3.here hx rfl (pc0 := 45) (pc' := 55) rfl (hb hby d24_45) rfl ((if0 _ _).trans (tlt (own_nf k2 (by omega) : (-((Int32.ofNat k2) + (1 : Int32))) < (0 : Int32))).1) (by decide) (by decide) k) ?_
          show Gl p e below P (T3.setTop (mkF m 55 #[.val (.ref aw), .val (.int (Int32.ofNat f)), .val (.int (Int32.ofNat t)), .val (.ref as), .val (.int (Int32.ofNat lw)), .val (.int (Int32.ofNat hi)), .val (.ref ai), .val (.int (Int32.ofNat (own_com W S f i lo hi).length)), .val (.int (Int32.ofNat i)), .val (.int (-((Int32.ofNat k2) + (1 : Int32))))] []))
          refine Gl.st (fun _ k => XS.iload X3.here hx rfl (hb hby d24_55) rfl k) ?_
          show Gl p e below P (T3.setTop (mkF m 57 #[.val (.ref aw), .val (.int (Int32.ofNat f)), .val (.int (Int32.ofNat t)), .val (.ref as), .val (.int (Int32.ofNat lw)), .val (.int (Int32.ofNat hi)), .val (.ref ai), .val (.int (Int32.ofNat (own_com W S f i lo hi).length)), .val (.int (Int32.ofNat i)), .val (.int (-((Int32.ofNat k2) + (1 : Int32))))] [(.int (-((Int32.ofNat k2) + (1 : Int32))))]))
          refine Gl.st (fun _ k => XS.ineg X3.here hx rfl (hb hby d24_57) rfl k) ?_
          show Gl p e below P (T3.setTop (mkF m 58 #[.val (.ref aw), .val (.int (Int32.ofNat f)), .val (.int (Int32.ofNat t)), .val (.ref as), .val (.int (Int32.ofNat lw)), .val (.int (Int32.ofNat hi)), .val (.ref ai), .val (.int (Int32.ofNat (own_com W S f i lo hi).length)), .val (.int (Int32.ofNat i)), .val (.int (-((Int32.ofNat k2) + (1 : Int32))))] [(.int (-(-((Int32.ofNat k2) + (1 : Int32)))))]))
          refine Gl.st (fun _ k => XS.iconst X3.here hx rfl (hb hby d24_58) k) ?_
          show Gl p e below P (T3.setTop (mkF m 59 #[.val (.ref aw), .val (.int (Int32.ofNat f)), .val (.int (Int32.ofNat t)), .val (.ref as), .val (.int (Int32.ofNat lw)), .val (.int (Int32.ofNat hi)), .val (.ref ai), .val (.int (Int32.ofNat (own_com W S f i lo hi).length)), .val (.int (Int32.ofNat i)), .val (.int (-((Int32.ofNat k2) + (1 : Int32))))] [(.int (1 : Int32)), (.int (-(-((Int32.ofNat k2) + (1 : Int32)))))]))
          refine Gl.st (fun _ k => XS.isub X3.here hx rfl (hb hby d24_59) rfl k) ?_
          show Gl p e below P (T3.setTop (mkF m 60 #[.val (.ref aw), .val (.int (Int32.ofNat f)), .val (.int (Int32.ofNat t)), .val (.ref as), .val (.int (Int32.ofNat lw)), .val (.int (Int32.ofNat hi)), .val (.ref ai), .val (.int (Int32.ofNat (own_com W S f i lo hi).length)), .val (.int (Int32.ofNat i)), .val (.int (-((Int32.ofNat k2) + (1 : Int32))))] [(.int ((-(-((Int32.ofNat k2) + (1 : Int32)))) - (1 : Int32)))]))
          rw [show ((-(-((Int32.ofNat k2) + (1 : Int32)))) - (1 : Int32)) = (Int32.ofNat k2) from own_back k2 (by omega)]
          show Gl p e below P (T3.setTop (mkF m 60 #[.val (.ref aw), .val (.int (Int32.ofNat f)), .val (.int (Int32.ofNat t)), .val (.ref as), .val (.int (Int32.ofNat lw)), .val (.int (Int32.ofNat hi)), .val (.ref ai), .val (.int (Int32.ofNat (own_com W S f i lo hi).length)), .val (.int (Int32.ofNat i)), .val (.int (-((Int32.ofNat k2) + (1 : Int32))))] [(.int (Int32.ofNat k2))]))
          refine Gl.st (fun _ k => XS.istore X3.here hx rfl (hb hby d24_60) rfl (l' := #[.val (.ref aw), .val (.int (Int32.ofNat f)), .val (.int (Int32.ofNat t)), .val (.ref as), .val (.int (Int32.ofNat k2)), .val (.int (Int32.ofNat hi)), .val (.ref ai), .val (.int (Int32.ofNat (own_com W S f i lo hi).length)), .val (.int (Int32.ofNat i)), .val (.int (-((Int32.ofNat k2) + (1 : Int32))))]) rfl k) ?_
          show Gl p e below P (T3.setTop (mkF m 62 #[.val (.ref aw), .val (.int (Int32.ofNat f)), .val (.int (Int32.ofNat t)), .val (.ref as), .val (.int (Int32.ofNat k2)), .val (.int (Int32.ofNat hi)), .val (.ref ai), .val (.int (Int32.ofNat (own_com W S f i lo hi).length)), .val (.int (Int32.ofNat i)), .val (.int (-((Int32.ofNat k2) + (1 : Int32))))] []))
          refine Gl.st (fun _ k => XS.iinc X3.here hx rfl (hb hby d24_62) rfl (l' := #[.val (.ref aw), .val (.int (Int32.ofNat f)), .val (.int (Int32.ofNat t)), .val (.ref as), .val (.int (Int32.ofNat k2)), .val (.int (Int32.ofNat hi)), .val (.ref ai), .val (.int (Int32.ofNat (own_com W S f i lo hi).length)), .val (.int ((Int32.ofNat i) + (1 : Int32))), .val (.int (-((Int32.ofNat k2) + (1 : Int32))))]) rfl k) ?_
          show Gl p e below P (T3.setTop (mkF m 65 #[.val (.ref aw), .val (.int (Int32.ofNat f)), .val (.int (Int32.ofNat t)), .val (.ref as), .val (.int (Int32.ofNat k2)), .val (.int (Int32.ofNat hi)), .val (.ref ai), .val (.int (Int32.ofNat (own_com W S f i lo hi).length)), .val (.int ((Int32.ofNat i) + (1 : Int32))), .val (.int (-((Int32.ofNat k2) + (1 : Int32))))] []))
          refine Gl.st (fun _ k => XS.goto X3.here hx rfl (pc0 := 65) (pc' := 6) rfl (hb hby d24_65) (by decide) (by decide) k) ?_
          show Gl p e below P (T3.setTop (mkF m 6 #[.val (.ref aw), .val (.int (Int32.ofNat f)), .val (.int (Int32.ofNat t)), .val (.ref as), .val (.int (Int32.ofNat k2)), .val (.int (Int32.ofNat hi)), .val (.ref ai), .val (.int (Int32.ofNat (own_com W S f i lo hi).length)), .val (.int ((Int32.ofNat i) + (1 : Int32))), .val (.int (-((Int32.ofNat k2) + (1 : Int32))))] []))
          rw [own_s i]
          rw [← hnx]
          show Gl p e below P (T3.setTop (mkF m 6 #[.val (.ref aw), .val (.int (Int32.ofNat f)), .val (.int (Int32.ofNat t)), .val (.ref as), .val (.int (Int32.ofNat k2)), .val (.int (Int32.ofNat hi)), .val (.ref ai), .val (.int (Int32.ofNat (own_com W S f (i + 1) lo hi).length)), .val (.int (Int32.ofNat (i + 1))), .val (.int (-((Int32.ofNat k2) + (1 : Int32))))] []))
          have VN := J1_V_ai
          rw [← hnx] at VN
          exact ih (i + 1) k2 _ T3 _ _ (X3.mono (by decide) (by decide)) e3 N3 J1_Z J1_V_aw J1_V_as VN J1_K (One.val rfl) (by omega) (by omega) (by omega) (by omega) (by omega) (fun j q1 q2 x q3 q4 => by by_cases q : j < lw; exact i8 j q1 q x (by omega) q4; exact own_tr (a4 j (by omega) q2) (hW i x (by omega) (by omega)))
      · refine Gl.st (fun _ k => XS.icmpYes X1.here hx rfl (pc0 := 9) (pc' := 68) rfl (hb hby d24_9) rfl (flt (fun q => hc ((own_lt i t (by omega) (by omega)).mp q) : ¬ ((Int32.ofNat i) < (Int32.ofNat t)))).2.1 (by decide) (by decide) k) ?_
        show Gl p e below P (T1.setTop (mkF m 68 #[.val (.ref aw), .val (.int (Int32.ofNat f)), .val (.int (Int32.ofNat t)), .val (.ref as), .val (.int (Int32.ofNat lw)), .val (.int (Int32.ofNat hi)), .val (.ref ai), .val (.int (Int32.ofNat (own_com W S f i lo hi).length)), .val (.int (Int32.ofNat i)), s9] []))
        have hit : t = i := by omega
        refine Gl.st (fun _ k => XS.iload X1.here hx rfl (hb hby d24_68) rfl k) ?_
        show Gl p e below P (T1.setTop (mkF m 70 #[.val (.ref aw), .val (.int (Int32.ofNat f)), .val (.int (Int32.ofNat t)), .val (.ref as), .val (.int (Int32.ofNat lw)), .val (.int (Int32.ofNat hi)), .val (.ref ai), .val (.int (Int32.ofNat (own_com W S f i lo hi).length)), .val (.int (Int32.ofNat i)), s9] [(.int (Int32.ofNat (own_com W S f i lo hi).length))]))
        obtain ⟨fs, hr, hrun, hended, hW, hsame⟩ := X1.leave (v := some (.int (Int32.ofNat (own_com W S f i lo hi).length))) (fun h => by rw [Bd.returns] at h; cases h)
        refine ⟨_, _, retOut X1 hx Bd.returns rfl (Or.inl ⟨rfl, Or.inl rfl, _, rfl⟩) (hb hby d24_70) hr, hrun, hended, hPost _ _ ⟨_, _, rfl, ?_, ⟨_, rfl⟩, hW, hsame.mono (by decide) (by decide)⟩⟩
        show Q24 Z aw kw W f t as ks S lo hi ai ki g h0 n0 _ T1.heap _
        rw [e1]
        exact (by rw [hit]; exact ⟨rfl, N1, J1_K, J1_V_ai⟩)
  have VI0 : Arv Z h0 ai ki .int (4 : Int32) (own_v4 (own_into (own_com W S f f lo hi) g)) (.int (0 : Int32)) := by rw [own_com_f, own_into_nil]; exact VI
  have hz0 : (0 : Int32) = Int32.ofNat (own_com W S f f lo hi).length := by rw [own_com_f]; rfl
  rw [hz0]
  show Gl p e below P (s₁.setTop (mkF m 6 #[.val (.ref aw), .val (.int (Int32.ofNat f)), .val (.int (Int32.ofNat t)), .val (.ref as), .val (.int (Int32.ofNat lo)), .val (.int (Int32.ofNat hi)), .val (.ref ai), .val (.int (Int32.ofNat (own_com W S f f lo hi).length)), .val (.int (Int32.ofNat f)), .unset] []))
  exact LP (t - f) f lo _ s₁ _ _ (X0.mono (by decide) (by decide)) e0 N0 Z0 VW VS VI0 (Keep.refl h0 [ai]) One.u (Nat.le_refl _) hf hlo (Nat.le_refl _) (Nat.le_refl _) (fun j q1 q2 => absurd q2 (by omega))
theorem pn_25 : plainName "com/example/vendace/vendace/service/SortedArrays" = true := by first | (simp [plainName, overriddenIn]; done) | decide +kernel
theorem ef_25 (m : MethodId) (x0 : Addr) (x1 : Int32) (x2 : Addr) (x3 : Int32) (x4 : Addr) : entryFrame m #[(.ref x0), (.int x1), (.ref x2), (.int x3), (.ref x4)] 5 = mkF m 0 #[.val (.ref x0), .val (.int x1), .val (.ref x2), .val (.int x3), .val (.ref x4)] [] := by first | (simp [entryFrame, mkF, argsToLocals, Value.category]; done) | rfl
def Q25 (Z : State) (aw : Addr) (kw : ClassId) (W : Nat → Int32) (f : Nat) (as : Addr) (ks : ClassId) (S : Nat → Int32) (cc : Nat) (ai : Addr) (ki : ClassId) (g : Nat → Int32) (h0 : Heap) (n0 : Nat) (v : Option Value) (h : Heap) (L : List Loc) : Prop := v = some (.int (Int32.ofNat (own_com W S f 4 0 cc).length)) ∧ Fr n0 L ∧ Keep h0 h [ai] ∧ Arv Z h ai ki .int (4 : Int32) (own_v4 (own_into (own_com W S f 4 0 cc) g)) (.int (0 : Int32))
set_option maxRecDepth 65536 in
set_option maxHeartbeats 40000000 in
theorem rm25 (l : Launch) (Z : State) (a0 : Array Value) (hw : ∀ d ∈ tables_1, d.before a0 Z = true) (ws : List Jvm.Cond) (aw : Addr) (kw : ClassId) (W : Nat → Int32) (f : Nat) (as : Addr) (ks : ClassId) (S : Nat → Int32) (cc : Nat) (ai : Addr) (ki : ClassId) (g : Nat → Int32) (h0 : Heap) (n0 : Nat) (Z0 : n0 ≤ h0.size) (VW : Arv Z h0 aw kw .int (4 : Int32) (own_v4 W) (.int (0 : Int32))) (VS : Arv Z h0 as ks .int (4 : Int32) (own_v4 S) (.int (0 : Int32))) (VI : Arv Z h0 ai ki .int (4 : Int32) (own_v4 g) (.int (0 : Int32))) (hf : f ≤ 4) (hc : cc ≤ 4) (hW : own_up4 W) (hS : own_up4 S) (nw : aw ≠ ai) (ns : as ≠ ai) (gi : n0 ≤ ai) :
    MetFree l (⟨"com/example/vendace/vendace/service/SortedArrays", "intersect", "([II[II[I)I"⟩ : MethodName) (head1 (Jvm.Cond.code (⟨"com/example/vendace/vendace/service/SortedArrays", "intersect", "([II[II[I)I"⟩ : MethodName) prog_23_method_2_code 5 (some .int) :: ws) ({ frames := 3, cells := 0, slots := 0, locals := 55 } : Room)) (fun a U => a = #[(.ref aw), (.int (Int32.ofNat f)), (.ref as), (.int (Int32.ofNat cc)), (.ref ai)] ∧ Z.Warmed39 U.vm ∧ U.heap = h0) (fun _ _ _ _ _ => True) (fun _ U o U' => ∃ v L, o = .returned v ∧ Q25 Z aw kw W f as ks S cc ai ki g h0 n0 v U'.heap L ∧ FrameEnd U o U' L ({ frames := 3, cells := 0, slots := 0, locals := 55 } : Room).cells ({ frames := 3, cells := 0, slots := 0, locals := 55 } : Room).slots) := by
  refine MetFree.of_bodySF (plainFor_of_name pn_25) hisR ?_
  intro p e s m args below meth c s₁ Bd hml0 hP hK
  obtain ⟨rfl, hZ, hh⟩ := hP
  have hx := Bd.exec
  have hby := Bd.bytes
  have hml : c.maxLocals = 5 := hml0
  have hown : s.vm.findClass "com/example/vendace/vendace/service/SortedArrays" = some m.cls := findClass_of_methodNamed Bd.named
  have hnm := (name_of_methodNamed Bd.named Bd.method).1
  have X0 : Stand p l e ({ frames := 3, cells := 0, slots := 0, locals := 55 } : Room) s m #[(.ref aw), (.int (Int32.ofNat f)), (.ref as), (.int (Int32.ofNat cc)), (.ref ai)] below meth c s₁ [] 0 0 := Stand.of_body Bd
  have e0 : s₁.heap = h0 := by rw [← hh, Bd.state]; rfl
  have N0 := Fr.nil n0
  refine Gl.gen fun P hPost => ?_
  refine Gl.st (fun _ k => castTop (ef_25 m aw (Int32.ofNat f) as (Int32.ofNat cc) ai ) k) ?_
  show Gl p e below P (s₁.setTop (mkF m 0 #[.val (.ref aw), .val (.int (Int32.ofNat f)), .val (.ref as), .val (.int (Int32.ofNat cc)), .val (.ref ai)] []))
  refine Gl.st (fun _ k => XS.aloadN X0.here hx rfl (hb hby d25_0) rfl rfl k) ?_
  show Gl p e below P (s₁.setTop (mkF m 1 #[.val (.ref aw), .val (.int (Int32.ofNat f)), .val (.ref as), .val (.int (Int32.ofNat cc)), .val (.ref ai)] [(.ref aw)]))
  obtain ⟨c1, Ar1, q1, S1, M1, H1, U1⟩ := id VW
  refine Gl.st (X0.arraylength hx (by rw [e0]; exact Ar1.1) (State.isArrayOf_alike hZ.alike Ar1.2.1) (g := (mkF m 1 #[.val (.ref aw), .val (.int (Int32.ofNat f)), .val (.ref as), .val (.int (Int32.ofNat cc)), .val (.ref ai)] [(.ref aw)])) rfl rfl (hb hby d25_1)) ?_
  rw [len_of S1 M1]
  show Gl p e below P (s₁.setTop (mkF m 2 #[.val (.ref aw), .val (.int (Int32.ofNat f)), .val (.ref as), .val (.int (Int32.ofNat cc)), .val (.ref ai)] [(.int (4 : Int32))]))
  refine Gl.st (fun _ k => XS.iloadN X0.here hx rfl (hb hby d25_2) rfl k) ?_
  show Gl p e below P (s₁.setTop (mkF m 3 #[.val (.ref aw), .val (.int (Int32.ofNat f)), .val (.ref as), .val (.int (Int32.ofNat cc)), .val (.ref ai)] [(.int (Int32.ofNat f)), (.int (4 : Int32))]))
  refine Gl.st (fun _ k => XS.isub X0.here hx rfl (hb hby d25_3) rfl k) ?_
  show Gl p e below P (s₁.setTop (mkF m 4 #[.val (.ref aw), .val (.int (Int32.ofNat f)), .val (.ref as), .val (.int (Int32.ofNat cc)), .val (.ref ai)] [(.int ((4 : Int32) - (Int32.ofNat f)))]))
  refine Gl.st (fun _ k => XS.iloadN X0.here hx rfl (hb hby d25_4) rfl k) ?_
  show Gl p e below P (s₁.setTop (mkF m 5 #[.val (.ref aw), .val (.int (Int32.ofNat f)), .val (.ref as), .val (.int (Int32.ofNat cc)), .val (.ref ai)] [(.int (Int32.ofNat cc)), (.int ((4 : Int32) - (Int32.ofNat f)))]))
  by_cases hbd : cc < 4 - f
  · refine Gl.st (fun _ k => XS.icmpYes X0.here hx rfl (pc0 := 5) (pc' := 23) rfl (hb hby d25_5) rfl (tlt ((own_from f cc hf hc).mpr hbd : (Int32.ofNat cc) < ((4 : Int32) - (Int32.ofNat f)))).2.2.1 (by decide) (by decide) k) ?_
    show Gl p e below P (s₁.setTop (mkF m 23 #[.val (.ref aw), .val (.int (Int32.ofNat f)), .val (.ref as), .val (.int (Int32.ofNat cc)), .val (.ref ai)] []))
    refine Gl.st (fun _ k => XS.aloadN X0.here hx rfl (hb hby d25_23) rfl rfl k) ?_
    show Gl p e below P (s₁.setTop (mkF m 24 #[.val (.ref aw), .val (.int (Int32.ofNat f)), .val (.ref as), .val (.int (Int32.ofNat cc)), .val (.ref ai)] [(.ref as)]))
    refine Gl.st (fun _ k => XS.iconst X0.here hx rfl (hb hby d25_24) k) ?_
    show Gl p e below P (s₁.setTop (mkF m 25 #[.val (.ref aw), .val (.int (Int32.ofNat f)), .val (.ref as), .val (.int (Int32.ofNat cc)), .val (.ref ai)] [(.int (0 : Int32)), (.ref as)]))
    refine Gl.st (fun _ k => XS.iloadN X0.here hx rfl (hb hby d25_25) rfl k) ?_
    show Gl p e below P (s₁.setTop (mkF m 26 #[.val (.ref aw), .val (.int (Int32.ofNat f)), .val (.ref as), .val (.int (Int32.ofNat cc)), .val (.ref ai)] [(.int (Int32.ofNat cc)), (.int (0 : Int32)), (.ref as)]))
    refine Gl.st (fun _ k => XS.aloadN X0.here hx rfl (hb hby d25_26) rfl rfl k) ?_
    show Gl p e below P (s₁.setTop (mkF m 27 #[.val (.ref aw), .val (.int (Int32.ofNat f)), .val (.ref as), .val (.int (Int32.ofNat cc)), .val (.ref ai)] [(.ref aw), (.int (Int32.ofNat cc)), (.int (0 : Int32)), (.ref as)]))
    refine Gl.st (fun _ k => XS.iloadN X0.here hx rfl (hb hby d25_27) rfl k) ?_
    show Gl p e below P (s₁.setTop (mkF m 28 #[.val (.ref aw), .val (.int (Int32.ofNat f)), .val (.ref as), .val (.int (Int32.ofNat cc)), .val (.ref ai)] [(.int (Int32.ofNat f)), (.ref aw), (.int (Int32.ofNat cc)), (.int (0 : Int32)), (.ref as)]))
    refine Gl.st (fun _ k => XS.aloadN X0.here hx rfl (hb hby d25_28) rfl rfl k) ?_
    show Gl p e below P (s₁.setTop (mkF m 29 #[.val (.ref aw), .val (.int (Int32.ofNat f)), .val (.ref as), .val (.int (Int32.ofNat cc)), .val (.ref ai)] [(.ref aw), (.int (Int32.ofNat f)), (.ref aw), (.int (Int32.ofNat cc)), (.int (0 : Int32)), (.ref as)]))
    obtain ⟨c2, Ar2, q2, S2, M2, H2, U2⟩ := id VW
    refine Gl.st (X0.arraylength hx (by rw [e0]; exact Ar2.1) (State.isArrayOf_alike hZ.alike Ar2.2.1) (g := (mkF m 29 #[.val (.ref aw), .val (.int (Int32.ofNat f)), .val (.ref as), .val (.int (Int32.ofNat cc)), .val (.ref ai)] [(.ref aw), (.int (Int32.ofNat f)), (.ref aw), (.int (Int32.ofNat cc)), (.int (0 : Int32)), (.ref as)])) rfl rfl (hb hby d25_29)) ?_
    rw [len_of S2 M2]
    show Gl p e below P (s₁.setTop (mkF m 30 #[.val (.ref aw), .val (.int (Int32.ofNat f)), .val (.ref as), .val (.int (Int32.ofNat cc)), .val (.ref ai)] [(.int (4 : Int32)), (.int (Int32.ofNat f)), (.ref aw), (.int (Int32.ofNat cc)), (.int (0 : Int32)), (.ref as)]))
    refine Gl.st (fun _ k => XS.aload X0.here hx rfl (hb hby d25_30) rfl rfl k) ?_
    show Gl p e below P (s₁.setTop (mkF m 32 #[.val (.ref aw), .val (.int (Int32.ofNat f)), .val (.ref as), .val (.int (Int32.ofNat cc)), .val (.ref ai)] [(.ref ai), (.int (4 : Int32)), (.int (Int32.ofNat f)), (.ref aw), (.int (Int32.ofNat cc)), (.int (0 : Int32)), (.ref as)]))
    obtain ⟨_, _, ⟨T3, L3, k3, n3⟩, -, X3, ⟨Lc3, hQ3, l3, y3, z3⟩, st3⟩ := Jvm.LawKit.callS X0 hx (y := (⟨"com/example/vendace/vendace/service/SortedArrays", "lookUp", "([III[III[I)I"⟩ : MethodName)) hown (mvT hZ (hw _ (List.mem_of_getElem? (i := 10) rfl))) (mvT hZ (hw _ (List.mem_of_getElem? (i := 11) rfl))) (mvT hZ (hw _ (List.mem_of_getElem? (i := 8) rfl))) (mvT hZ (hw _ (List.mem_of_getElem? (i := 12) rfl))) (by decide) (backOf (W := 0) (rm24 l Z a0 hw [] as ks S 0 cc aw kw W f 4 ai ki g h0 n0 Z0 VS VW VI (Nat.zero_le _) hc hf (Nat.le_refl _) hS hW ns nw gi) hZ (hw _ (List.mem_of_getElem? (i := 12) rfl)) (hw _ (List.mem_of_getElem? (i := 8) rfl)) (by decide) (by decide)) (g := (mkF m 32 #[.val (.ref aw), .val (.int (Int32.ofNat f)), .val (.ref as), .val (.int (Int32.ofNat cc)), .val (.ref ai)] [(.ref ai), (.int (4 : Int32)), (.int (Int32.ofNat f)), (.ref aw), (.int (Int32.ofNat cc)), (.int (0 : Int32)), (.ref as)])) rfl (by rw [hml]; rfl) (argsL := [(.ref as), (.int (0 : Int32)), (.int (Int32.ofNat cc)), (.ref aw), (.int (Int32.ofNat f)), (.int (4 : Int32)), (.ref ai)]) (rest := []) (lenOf pd_2 rfl) rfl (by show 2 * 0 + _ ≤ _; exact Nat.le_of_eq rfl) (hb hby d25_32) (fun _ _ => ⟨rfl, e0, (by decide : 0 + 0 ≤ _), (by decide : 0 + 0 ≤ _)⟩)
    dsimp only [Pt.U, Pt.locs, Pt.cells, Pt.slots] at X3 l3 y3 z3 st3 hQ3
    subst l3 y3 z3
    obtain ⟨rfl, N3q, K3, VN3⟩ := hQ3
    rw [own_both hW hS hc] at VN3 st3
    have N3 := Fr.app N0 N3q
    have Z0_v3 : n0 ≤ T3.heap.size := Nat.le_trans Z0 K3.1
    refine Gl.st st3 ?_
    show Gl p e below P (T3.setTop (mkF m 35 #[.val (.ref aw), .val (.int (Int32.ofNat f)), .val (.ref as), .val (.int (Int32.ofNat cc)), .val (.ref ai)] [(.int (Int32.ofNat (own_com W S f 4 0 cc).length))]))
    obtain ⟨fs, hr, hrun, hended, hW, hsame⟩ := X3.leave (v := some (.int (Int32.ofNat (own_com W S f 4 0 cc).length))) (fun h => by rw [Bd.returns] at h; cases h)
    refine ⟨_, _, retOut X3 hx Bd.returns rfl (Or.inl ⟨rfl, Or.inl rfl, _, rfl⟩) (hb hby d25_35) hr, hrun, hended, hPost _ _ ⟨_, _, rfl, ?_, ⟨_, rfl⟩, hW, hsame.mono (by decide) (by decide)⟩⟩
    show Q25 Z aw kw W f as ks S cc ai ki g h0 n0 _ T3.heap _
    exact ⟨rfl, N3, K3, VN3⟩
  · refine Gl.st (fun _ k => XS.icmpNo X0.here hx rfl (hb hby d25_5) rfl (flt (fun q => hbd ((own_from f cc hf hc).mp q) : ¬ ((Int32.ofNat cc) < ((4 : Int32) - (Int32.ofNat f))))).2.2.1 k) ?_
    show Gl p e below P (s₁.setTop (mkF m 8 #[.val (.ref aw), .val (.int (Int32.ofNat f)), .val (.ref as), .val (.int (Int32.ofNat cc)), .val (.ref ai)] []))
    refine Gl.st (fun _ k => XS.aloadN X0.here hx rfl (hb hby d25_8) rfl rfl k) ?_
    show Gl p e below P (s₁.setTop (mkF m 9 #[.val (.ref aw), .val (.int (Int32.ofNat f)), .val (.ref as), .val (.int (Int32.ofNat cc)), .val (.ref ai)] [(.ref aw)]))
    refine Gl.st (fun _ k => XS.iloadN X0.here hx rfl (hb hby d25_9) rfl k) ?_
    show Gl p e below P (s₁.setTop (mkF m 10 #[.val (.ref aw), .val (.int (Int32.ofNat f)), .val (.ref as), .val (.int (Int32.ofNat cc)), .val (.ref ai)] [(.int (Int32.ofNat f)), (.ref aw)]))
    refine Gl.st (fun _ k => XS.aloadN X0.here hx rfl (hb hby d25_10) rfl rfl k) ?_
    show Gl p e below P (s₁.setTop (mkF m 11 #[.val (.ref aw), .val (.int (Int32.ofNat f)), .val (.ref as), .val (.int (Int32.ofNat cc)), .val (.ref ai)] [(.ref aw), (.int (Int32.ofNat f)), (.ref aw)]))
    obtain ⟨c4, Ar4, q4, S4, M4, H4, U4⟩ := id VW
    refine Gl.st (X0.arraylength hx (by rw [e0]; exact Ar4.1) (State.isArrayOf_alike hZ.alike Ar4.2.1) (g := (mkF m 11 #[.val (.ref aw), .val (.int (Int32.ofNat f)), .val (.ref as), .val (.int (Int32.ofNat cc)), .val (.ref ai)] [(.ref aw), (.int (Int32.ofNat f)), (.ref aw)])) rfl rfl (hb hby d25_11)) ?_
    rw [len_of S4 M4]
    show Gl p e below P (s₁.setTop (mkF m 12 #[.val (.ref aw), .val (.int (Int32.ofNat f)), .val (.ref as), .val (.int (Int32.ofNat cc)), .val (.ref ai)] [(.int (4 : Int32)), (.int (Int32.ofNat f)), (.ref aw)]))
    refine Gl.st (fun _ k => XS.aloadN X0.here hx rfl (hb hby d25_12) rfl rfl k) ?_
    show Gl p e below P (s₁.setTop (mkF m 13 #[.val (.ref aw), .val (.int (Int32.ofNat f)), .val (.ref as), .val (.int (Int32.ofNat cc)), .val (.ref ai)] [(.ref as), (.int (4 : Int32)), (.int (Int32.ofNat f)), (.ref aw)]))
    refine Gl.st (fun _ k => XS.iconst X0.here hx rfl (hb hby d25_13) k) ?_
    show Gl p e below P (s₁.setTop (mkF m 14 #[.val (.ref aw), .val (.int (Int32.ofNat f)), .val (.ref as), .val (.int (Int32.ofNat cc)), .val (.ref ai)] [(.int (0 : Int32)), (.ref as), (.int (4 : Int32)), (.int (Int32.ofNat f)), (.ref aw)]))
    refine Gl.st (fun _ k => XS.iloadN X0.here hx rfl (hb hby d25_14) rfl k) ?_
    show Gl p e below P (s₁.setTop (mkF m 15 #[.val (.ref aw), .val (.int (Int32.ofNat f)), .val (.ref as), .val (.int (Int32.ofNat cc)), .val (.ref ai)] [(.int (Int32.ofNat cc)), (.int (0 : Int32)), (.ref as), (.int (4 : Int32)), (.int (Int32.ofNat f)), (.ref aw)]))
    refine Gl.st (fun _ k => XS.aload X0.here hx rfl (hb hby d25_15) rfl rfl k) ?_
    show Gl p e below P (s₁.setTop (mkF m 17 #[.val (.ref aw), .val (.int (Int32.ofNat f)), .val (.ref as), .val (.int (Int32.ofNat cc)), .val (.ref ai)] [(.ref ai), (.int (Int32.ofNat cc)), (.int (0 : Int32)), (.ref as), (.int (4 : Int32)), (.int (Int32.ofNat f)), (.ref aw)]))
    obtain ⟨_, _, ⟨T5, L5, k5, n5⟩, -, X5, ⟨Lc5, hQ5, l5, y5, z5⟩, st5⟩ := Jvm.LawKit.callS X0 hx (y := (⟨"com/example/vendace/vendace/service/SortedArrays", "lookUp", "([III[III[I)I"⟩ : MethodName)) hown (mvT hZ (hw _ (List.mem_of_getElem? (i := 10) rfl))) (mvT hZ (hw _ (List.mem_of_getElem? (i := 11) rfl))) (mvT hZ (hw _ (List.mem_of_getElem? (i := 8) rfl))) (mvT hZ (hw _ (List.mem_of_getElem? (i := 12) rfl))) (by decide) (backOf (W := 0) (rm24 l Z a0 hw [] aw kw W f 4 as ks S 0 cc ai ki g h0 n0 Z0 VW VS VI hf (Nat.le_refl _) (Nat.zero_le _) hc hW hS nw ns gi) hZ (hw _ (List.mem_of_getElem? (i := 12) rfl)) (hw _ (List.mem_of_getElem? (i := 8) rfl)) (by decide) (by decide)) (g := (mkF m 17 #[.val (.ref aw), .val (.int (Int32.ofNat f)), .val (.ref as), .val (.int (Int32.ofNat cc)), .val (.ref ai)] [(.ref ai), (.int (Int32.ofNat cc)), (.int (0 : Int32)), (.ref as), (.int (4 : Int32)), (.int (Int32.ofNat f)), (.ref aw)])) rfl (by rw [hml]; rfl) (argsL := [(.ref aw), (.int (Int32.ofNat f)), (.int (4 : Int32)), (.ref as), (.int (0 : Int32)), (.int (Int32.ofNat cc)), (.ref ai)]) (rest := []) (lenOf pd_2 rfl) rfl (by show 2 * 0 + _ ≤ _; exact Nat.le_of_eq rfl) (hb hby d25_17) (fun _ _ => ⟨rfl, e0, (by decide : 0 + 0 ≤ _), (by decide : 0 + 0 ≤ _)⟩)
    dsimp only [Pt.U, Pt.locs, Pt.cells, Pt.slots] at X5 l5 y5 z5 st5 hQ5
    subst l5 y5 z5
    obtain ⟨rfl, N5q, K5, VN5⟩ := hQ5
    have N5 := Fr.app N0 N5q
    have Z0_v5 : n0 ≤ T5.heap.size := Nat.le_trans Z0 K5.1
    refine Gl.st st5 ?_
    show Gl p e below P (T5.setTop (mkF m 20 #[.val (.ref aw), .val (.int (Int32.ofNat f)), .val (.ref as), .val (.int (Int32.ofNat cc)), .val (.ref ai)] [(.int (Int32.ofNat (own_com W S f 4 0 cc).length))]))
    refine Gl.st (fun _ k => XS.goto X5.here hx rfl (pc0 := 20) (pc' := 35) rfl (hb hby d25_20) (by decide) (by decide) k) ?_
    show Gl p e below P (T5.setTop (mkF m 35 #[.val (.ref aw), .val (.int (Int32.ofNat f)), .val (.ref as), .val (.int (Int32.ofNat cc)), .val (.ref ai)] [(.int (Int32.ofNat (own_com W S f 4 0 cc).length))]))
    obtain ⟨fs, hr, hrun, hended, hW, hsame⟩ := X5.leave (v := some (.int (Int32.ofNat (own_com W S f 4 0 cc).length))) (fun h => by rw [Bd.returns] at h; cases h)
    refine ⟨_, _, retOut X5 hx Bd.returns rfl (Or.inl ⟨rfl, Or.inl rfl, _, rfl⟩) (hb hby d25_35) hr, hrun, hended, hPost _ _ ⟨_, _, rfl, ?_, ⟨_, rfl⟩, hW, hsame.mono (by decide) (by decide)⟩⟩
    show Q25 Z aw kw W f as ks S cc ai ki g h0 n0 _ T5.heap _
    exact ⟨rfl, N5, K5, VN5⟩
theorem pn_26 : plainName "com/example/vendace/vendace/service/SortedArraysIntersectPinLaw" = true := by first | (simp [plainName, overriddenIn]; done) | decide +kernel
theorem ef_26 (m : MethodId) (x0 : Addr) (x1 : Int32) (x2 : Int32) : entryFrame m #[(.ref x0), (.int x1), (.int x2)] 3 = mkF m 0 #[.val (.ref x0), .val (.int x1), .val (.int x2)] [] := by first | (simp [entryFrame, mkF, argsToLocals, Value.category]; done) | rfl
def Q26 (Z : State) (a1 : Addr) (k1 : ClassId) (S : Nat → Int32) (cc : Nat) (x : Int32) (z : Int32) (h0 : Heap) (n0 : Nat) (v : Option Value) (h : Heap) (L : List Loc) : Prop := v = some (.int z) ∧ Fr n0 L ∧ h = h0
set_option maxRecDepth 65536 in
set_option maxHeartbeats 40000000 in
theorem rm26 (l : Launch) (Z : State) (a0 : Array Value) (hw : ∀ d ∈ tables_1, d.before a0 Z = true) (ws : List Jvm.Cond) (a1 : Addr) (k1 : ClassId) (S : Nat → Int32) (cc : Nat) (x : Int32) (z : Int32) (h0 : Heap) (n0 : Nat) (Z0 : n0 ≤ h0.size) (V1 : Arv Z h0 a1 k1 .int (4 : Int32) (own_v4 S) (.int (0 : Int32))) (hc : cc ≤ 4) (hz : (own_in S 0 cc x = true ∧ z = (1 : Int32)) ∨ (¬ own_in S 0 cc x = true ∧ z = (0 : Int32))) :
    MetFree l (⟨"com/example/vendace/vendace/service/SortedArraysIntersectPinLaw", "holds", "([III)Z"⟩ : MethodName) (head1 (Jvm.Cond.code (⟨"com/example/vendace/vendace/service/SortedArraysIntersectPinLaw", "holds", "([III)Z"⟩ : MethodName) method_2_code 3 (some .boolean) :: ws) ({ frames := 0, cells := 0, slots := 0, locals := 0 } : Room)) (fun a U => a = #[(.ref a1), (.int (Int32.ofNat cc)), (.int x)] ∧ Z.Warmed39 U.vm ∧ U.heap = h0) (fun _ _ _ _ _ => True) (fun _ U o U' => ∃ v L, o = .returned v ∧ Q26 Z a1 k1 S cc x z h0 n0 v U'.heap L ∧ FrameEnd U o U' L ({ frames := 0, cells := 0, slots := 0, locals := 0 } : Room).cells ({ frames := 0, cells := 0, slots := 0, locals := 0 } : Room).slots) := by
  refine MetFree.of_bodySF (plainFor_of_name pn_26) hisR ?_
  intro p e s m args below meth c s₁ Bd hml0 hP hK
  obtain ⟨rfl, hZ, hh⟩ := hP
  have hx := Bd.exec
  have hby := Bd.bytes
  have hml : c.maxLocals = 3 := hml0
  have hown : s.vm.findClass "com/example/vendace/vendace/service/SortedArraysIntersectPinLaw" = some m.cls := findClass_of_methodNamed Bd.named
  have hnm := (name_of_methodNamed Bd.named Bd.method).1
  have X0 : Stand p l e ({ frames := 0, cells := 0, slots := 0, locals := 0 } : Room) s m #[(.ref a1), (.int (Int32.ofNat cc)), (.int x)] below meth c s₁ [] 0 0 := Stand.of_body Bd
  have e0 : s₁.heap = h0 := by rw [← hh, Bd.state]; rfl
  have N0 := Fr.nil n0
  refine Gl.gen fun P hPost => ?_
  refine Gl.st (fun _ k => castTop (ef_26 m a1 (Int32.ofNat cc) x ) k) ?_
  show Gl p e below P (s₁.setTop (mkF m 0 #[.val (.ref a1), .val (.int (Int32.ofNat cc)), .val (.int x)] []))
  have hcs : cc = 0 ∨ cc = 1 ∨ cc = 2 ∨ cc = 3 ∨ cc = 4 := by omega
  rcases hcs with rfl | rfl | rfl | rfl | rfl
  · show Gl p e below P (s₁.setTop (mkF m 0 #[.val (.ref a1), .val (.int (0 : Int32)), .val (.int x)] []))
    refine Gl.st (fun _ k => XS.iloadN X0.here hx rfl (hb hby d26_0) rfl k) ?_
    show Gl p e below P (s₁.setTop (mkF m 1 #[.val (.ref a1), .val (.int (0 : Int32)), .val (.int x)] [(.int (0 : Int32))]))
    refine Gl.st (fun _ k => XS.ifYes X0.here hx rfl (pc0 := 1) (pc' := 11) rfl (hb hby d26_1) rfl ((if0 _ _).trans (flt (by decide : ¬ ((0 : Int32) < (0 : Int32)))).2.2.2) (by decide) (by decide) k) ?_
    show Gl p e below P (s₁.setTop (mkF m 11 #[.val (.ref a1), .val (.int (0 : Int32)), .val (.int x)] []))
    refine Gl.st (fun _ k => XS.iloadN X0.here hx rfl (hb hby d26_11) rfl k) ?_
    show Gl p e below P (s₁.setTop (mkF m 12 #[.val (.ref a1), .val (.int (0 : Int32)), .val (.int x)] [(.int (0 : Int32))]))
    refine Gl.st (fun _ k => XS.iconst X0.here hx rfl (hb hby d26_12) k) ?_
    show Gl p e below P (s₁.setTop (mkF m 13 #[.val (.ref a1), .val (.int (0 : Int32)), .val (.int x)] [(.int (1 : Int32)), (.int (0 : Int32))]))
    refine Gl.st (fun _ k => XS.icmpYes X0.here hx rfl (pc0 := 13) (pc' := 23) rfl (hb hby d26_13) rfl (flt (by decide : ¬ ((1 : Int32) < (0 : Int32)))).2.2.2 (by decide) (by decide) k) ?_
    show Gl p e below P (s₁.setTop (mkF m 23 #[.val (.ref a1), .val (.int (0 : Int32)), .val (.int x)] []))
    refine Gl.st (fun _ k => XS.iloadN X0.here hx rfl (hb hby d26_23) rfl k) ?_
    show Gl p e below P (s₁.setTop (mkF m 24 #[.val (.ref a1), .val (.int (0 : Int32)), .val (.int x)] [(.int (0 : Int32))]))
    refine Gl.st (fun _ k => XS.iconst X0.here hx rfl (hb hby d26_24) k) ?_
    show Gl p e below P (s₁.setTop (mkF m 25 #[.val (.ref a1), .val (.int (0 : Int32)), .val (.int x)] [(.int (2 : Int32)), (.int (0 : Int32))]))
    refine Gl.st (fun _ k => XS.icmpYes X0.here hx rfl (pc0 := 25) (pc' := 35) rfl (hb hby d26_25) rfl (flt (by decide : ¬ ((2 : Int32) < (0 : Int32)))).2.2.2 (by decide) (by decide) k) ?_
    show Gl p e below P (s₁.setTop (mkF m 35 #[.val (.ref a1), .val (.int (0 : Int32)), .val (.int x)] []))
    refine Gl.st (fun _ k => XS.iloadN X0.here hx rfl (hb hby d26_35) rfl k) ?_
    show Gl p e below P (s₁.setTop (mkF m 36 #[.val (.ref a1), .val (.int (0 : Int32)), .val (.int x)] [(.int (0 : Int32))]))
    refine Gl.st (fun _ k => XS.iconst X0.here hx rfl (hb hby d26_36) k) ?_
    show Gl p e below P (s₁.setTop (mkF m 37 #[.val (.ref a1), .val (.int (0 : Int32)), .val (.int x)] [(.int (3 : Int32)), (.int (0 : Int32))]))
    refine Gl.st (fun _ k => XS.icmpYes X0.here hx rfl (pc0 := 37) (pc' := 51) rfl (hb hby d26_37) rfl (flt (by decide : ¬ ((3 : Int32) < (0 : Int32)))).2.2.2 (by decide) (by decide) k) ?_
    show Gl p e below P (s₁.setTop (mkF m 51 #[.val (.ref a1), .val (.int (0 : Int32)), .val (.int x)] []))
    refine Gl.st (fun _ k => XS.iconst X0.here hx rfl (hb hby d26_51) k) ?_
    show Gl p e below P (s₁.setTop (mkF m 52 #[.val (.ref a1), .val (.int (0 : Int32)), .val (.int x)] [(.int (0 : Int32))]))
    have hz0 : z = (0 : Int32) := by
      rcases hz with ⟨q, -⟩ | ⟨-, q⟩
      · obtain ⟨j, -, b2, b3⟩ := (own_in_iff hc).mp q
        omega
      · exact q
    obtain ⟨fs, hr, hrun, hended, hW, hsame⟩ := X0.leave (v := some (.int (0 : Int32))) (fun h => by rw [Bd.returns] at h; cases h)
    refine ⟨_, _, retN X0 hx (t := .boolean) Bd.returns (by simp) (hb hby d26_52) hr, hrun, hended, hPost _ _ ⟨_, _, rfl, ?_, ⟨_, rfl⟩, hW, hsame.mono (by decide) (by decide)⟩⟩
    show Q26 Z a1 k1 S 0 x z h0 n0 _ s₁.heap _
    rw [e0]
    exact ⟨by rw [hz0], N0, rfl⟩
  · show Gl p e below P (s₁.setTop (mkF m 0 #[.val (.ref a1), .val (.int (1 : Int32)), .val (.int x)] []))
    refine Gl.st (fun _ k => XS.iloadN X0.here hx rfl (hb hby d26_0) rfl k) ?_
    show Gl p e below P (s₁.setTop (mkF m 1 #[.val (.ref a1), .val (.int (1 : Int32)), .val (.int x)] [(.int (1 : Int32))]))
    refine Gl.st (fun _ k => XS.ifNo X0.here hx rfl (hb hby d26_1) rfl ((if0 _ _).trans (tlt (by decide : (0 : Int32) < (1 : Int32))).2.2.2) k) ?_
    show Gl p e below P (s₁.setTop (mkF m 4 #[.val (.ref a1), .val (.int (1 : Int32)), .val (.int x)] []))
    refine Gl.st (fun _ k => XS.aloadN X0.here hx rfl (hb hby d26_4) rfl rfl k) ?_
    show Gl p e below P (s₁.setTop (mkF m 5 #[.val (.ref a1), .val (.int (1 : Int32)), .val (.int x)] [(.ref a1)]))
    refine Gl.st (fun _ k => XS.iconst X0.here hx rfl (hb hby d26_5) k) ?_
    show Gl p e below P (s₁.setTop (mkF m 6 #[.val (.ref a1), .val (.int (1 : Int32)), .val (.int x)] [(.int (0 : Int32)), (.ref a1)]))
    obtain ⟨c1, Ar1, q1, S1, M1, H1, U1⟩ := id V1
    have hin1 : ¬ ((0 : Int32) < 0 ∨ c1.slots.size ≤ ((0 : Int32)).toNatClampNeg) := (inb_of S1 ⟨(by decide : ¬ ((0 : Int32) < (0 : Int32))), (by decide : (0 : Int32) < (4 : Int32))⟩)
    have hat1 : c1.slots[((0 : Int32)).toNatClampNeg]? = some (.int (S 0)) := H1.at hin1 rfl
    refine Gl.st (X0.iaload hx (j := (0 : Int32)) (v := (.int (S 0))) (by rw [e0]; exact Ar1.1) (State.isArrayOf_alike hZ.alike Ar1.2.1) Ar1.2.2 hin1 hat1 (g := (mkF m 6 #[.val (.ref a1), .val (.int (1 : Int32)), .val (.int x)] [(.int (0 : Int32)), (.ref a1)])) rfl rfl (hb hby d26_6)) ?_
    show Gl p e below P (s₁.setTop (mkF m 7 #[.val (.ref a1), .val (.int (1 : Int32)), .val (.int x)] [(.int (S 0))]))
    refine Gl.st (fun _ k => XS.iloadN X0.here hx rfl (hb hby d26_7) rfl k) ?_
    show Gl p e below P (s₁.setTop (mkF m 8 #[.val (.ref a1), .val (.int (1 : Int32)), .val (.int x)] [(.int x), (.int (S 0))]))
    by_cases ue0 : S 0 = x
    · refine Gl.st (fun _ k => XS.icmpYes X0.here hx rfl (pc0 := 8) (pc' := 47) rfl (hb hby d26_8) rfl (teq (ue0 : (S 0) = x)).1 (by decide) (by decide) k) ?_
      show Gl p e below P (s₁.setTop (mkF m 47 #[.val (.ref a1), .val (.int (1 : Int32)), .val (.int x)] []))
      refine Gl.st (fun _ k => XS.iconst X0.here hx rfl (hb hby d26_47) k) ?_
      show Gl p e below P (s₁.setTop (mkF m 48 #[.val (.ref a1), .val (.int (1 : Int32)), .val (.int x)] [(.int (1 : Int32))]))
      refine Gl.st (fun _ k => XS.goto X0.here hx rfl (pc0 := 48) (pc' := 52) rfl (hb hby d26_48) (by decide) (by decide) k) ?_
      show Gl p e below P (s₁.setTop (mkF m 52 #[.val (.ref a1), .val (.int (1 : Int32)), .val (.int x)] [(.int (1 : Int32))]))
      have hz1 : z = (1 : Int32) := by rcases hz with ⟨-, q⟩ | ⟨q, -⟩ <;> first | exact q | exact absurd ((own_in_iff hc).mpr ⟨0, by omega, by omega, ue0⟩) q
      obtain ⟨fs, hr, hrun, hended, hW, hsame⟩ := X0.leave (v := some (.int (1 : Int32))) (fun h => by rw [Bd.returns] at h; cases h)
      refine ⟨_, _, retN X0 hx (t := .boolean) Bd.returns (by simp) (hb hby d26_52) hr, hrun, hended, hPost _ _ ⟨_, _, rfl, ?_, ⟨_, rfl⟩, hW, hsame.mono (by decide) (by decide)⟩⟩
      show Q26 Z a1 k1 S 1 x z h0 n0 _ s₁.heap _
      rw [e0]
      exact ⟨by rw [hz1], N0, rfl⟩
    · refine Gl.st (fun _ k => XS.icmpNo X0.here hx rfl (hb hby d26_8) rfl (feq (ue0 : ¬ ((S 0) = x))).1 k) ?_
      show Gl p e below P (s₁.setTop (mkF m 11 #[.val (.ref a1), .val (.int (1 : Int32)), .val (.int x)] []))
      refine Gl.st (fun _ k => XS.iloadN X0.here hx rfl (hb hby d26_11) rfl k) ?_
      show Gl p e below P (s₁.setTop (mkF m 12 #[.val (.ref a1), .val (.int (1 : Int32)), .val (.int x)] [(.int (1 : Int32))]))
      refine Gl.st (fun _ k => XS.iconst X0.here hx rfl (hb hby d26_12) k) ?_
      show Gl p e below P (s₁.setTop (mkF m 13 #[.val (.ref a1), .val (.int (1 : Int32)), .val (.int x)] [(.int (1 : Int32)), (.int (1 : Int32))]))
      refine Gl.st (fun _ k => XS.icmpYes X0.here hx rfl (pc0 := 13) (pc' := 23) rfl (hb hby d26_13) rfl (flt (by decide : ¬ ((1 : Int32) < (1 : Int32)))).2.2.2 (by decide) (by decide) k) ?_
      show Gl p e below P (s₁.setTop (mkF m 23 #[.val (.ref a1), .val (.int (1 : Int32)), .val (.int x)] []))
      refine Gl.st (fun _ k => XS.iloadN X0.here hx rfl (hb hby d26_23) rfl k) ?_
      show Gl p e below P (s₁.setTop (mkF m 24 #[.val (.ref a1), .val (.int (1 : Int32)), .val (.int x)] [(.int (1 : Int32))]))
      refine Gl.st (fun _ k => XS.iconst X0.here hx rfl (hb hby d26_24) k) ?_
      show Gl p e below P (s₁.setTop (mkF m 25 #[.val (.ref a1), .val (.int (1 : Int32)), .val (.int x)] [(.int (2 : Int32)), (.int (1 : Int32))]))
      refine Gl.st (fun _ k => XS.icmpYes X0.here hx rfl (pc0 := 25) (pc' := 35) rfl (hb hby d26_25) rfl (flt (by decide : ¬ ((2 : Int32) < (1 : Int32)))).2.2.2 (by decide) (by decide) k) ?_
      show Gl p e below P (s₁.setTop (mkF m 35 #[.val (.ref a1), .val (.int (1 : Int32)), .val (.int x)] []))
      refine Gl.st (fun _ k => XS.iloadN X0.here hx rfl (hb hby d26_35) rfl k) ?_
      show Gl p e below P (s₁.setTop (mkF m 36 #[.val (.ref a1), .val (.int (1 : Int32)), .val (.int x)] [(.int (1 : Int32))]))
      refine Gl.st (fun _ k => XS.iconst X0.here hx rfl (hb hby d26_36) k) ?_
      show Gl p e below P (s₁.setTop (mkF m 37 #[.val (.ref a1), .val (.int (1 : Int32)), .val (.int x)] [(.int (3 : Int32)), (.int (1 : Int32))]))
      refine Gl.st (fun _ k => XS.icmpYes X0.here hx rfl (pc0 := 37) (pc' := 51) rfl (hb hby d26_37) rfl (flt (by decide : ¬ ((3 : Int32) < (1 : Int32)))).2.2.2 (by decide) (by decide) k) ?_
      show Gl p e below P (s₁.setTop (mkF m 51 #[.val (.ref a1), .val (.int (1 : Int32)), .val (.int x)] []))
      refine Gl.st (fun _ k => XS.iconst X0.here hx rfl (hb hby d26_51) k) ?_
      show Gl p e below P (s₁.setTop (mkF m 52 #[.val (.ref a1), .val (.int (1 : Int32)), .val (.int x)] [(.int (0 : Int32))]))
      have hz0 : z = (0 : Int32) := by
        rcases hz with ⟨q, -⟩ | ⟨-, q⟩
        · obtain ⟨j, -, b2, b3⟩ := (own_in_iff hc).mp q
          have hjs : j = 0 := by omega
          rcases hjs with rfl
          · exact absurd b3 ue0
        · exact q
      obtain ⟨fs, hr, hrun, hended, hW, hsame⟩ := X0.leave (v := some (.int (0 : Int32))) (fun h => by rw [Bd.returns] at h; cases h)
      refine ⟨_, _, retN X0 hx (t := .boolean) Bd.returns (by simp) (hb hby d26_52) hr, hrun, hended, hPost _ _ ⟨_, _, rfl, ?_, ⟨_, rfl⟩, hW, hsame.mono (by decide) (by decide)⟩⟩
      show Q26 Z a1 k1 S 1 x z h0 n0 _ s₁.heap _
      rw [e0]
      exact ⟨by rw [hz0], N0, rfl⟩
  · show Gl p e below P (s₁.setTop (mkF m 0 #[.val (.ref a1), .val (.int (2 : Int32)), .val (.int x)] []))
    refine Gl.st (fun _ k => XS.iloadN X0.here hx rfl (hb hby d26_0) rfl k) ?_
    show Gl p e below P (s₁.setTop (mkF m 1 #[.val (.ref a1), .val (.int (2 : Int32)), .val (.int x)] [(.int (2 : Int32))]))
    refine Gl.st (fun _ k => XS.ifNo X0.here hx rfl (hb hby d26_1) rfl ((if0 _ _).trans (tlt (by decide : (0 : Int32) < (2 : Int32))).2.2.2) k) ?_
    show Gl p e below P (s₁.setTop (mkF m 4 #[.val (.ref a1), .val (.int (2 : Int32)), .val (.int x)] []))
    refine Gl.st (fun _ k => XS.aloadN X0.here hx rfl (hb hby d26_4) rfl rfl k) ?_
    show Gl p e below P (s₁.setTop (mkF m 5 #[.val (.ref a1), .val (.int (2 : Int32)), .val (.int x)] [(.ref a1)]))
    refine Gl.st (fun _ k => XS.iconst X0.here hx rfl (hb hby d26_5) k) ?_
    show Gl p e below P (s₁.setTop (mkF m 6 #[.val (.ref a1), .val (.int (2 : Int32)), .val (.int x)] [(.int (0 : Int32)), (.ref a1)]))
    obtain ⟨c2, Ar2, q2, S2, M2, H2, U2⟩ := id V1
    have hin2 : ¬ ((0 : Int32) < 0 ∨ c2.slots.size ≤ ((0 : Int32)).toNatClampNeg) := (inb_of S2 ⟨(by decide : ¬ ((0 : Int32) < (0 : Int32))), (by decide : (0 : Int32) < (4 : Int32))⟩)
    have hat2 : c2.slots[((0 : Int32)).toNatClampNeg]? = some (.int (S 0)) := H2.at hin2 rfl
    refine Gl.st (X0.iaload hx (j := (0 : Int32)) (v := (.int (S 0))) (by rw [e0]; exact Ar2.1) (State.isArrayOf_alike hZ.alike Ar2.2.1) Ar2.2.2 hin2 hat2 (g := (mkF m 6 #[.val (.ref a1), .val (.int (2 : Int32)), .val (.int x)] [(.int (0 : Int32)), (.ref a1)])) rfl rfl (hb hby d26_6)) ?_
    show Gl p e below P (s₁.setTop (mkF m 7 #[.val (.ref a1), .val (.int (2 : Int32)), .val (.int x)] [(.int (S 0))]))
    refine Gl.st (fun _ k => XS.iloadN X0.here hx rfl (hb hby d26_7) rfl k) ?_
    show Gl p e below P (s₁.setTop (mkF m 8 #[.val (.ref a1), .val (.int (2 : Int32)), .val (.int x)] [(.int x), (.int (S 0))]))
    by_cases ue0 : S 0 = x
    · refine Gl.st (fun _ k => XS.icmpYes X0.here hx rfl (pc0 := 8) (pc' := 47) rfl (hb hby d26_8) rfl (teq (ue0 : (S 0) = x)).1 (by decide) (by decide) k) ?_
      show Gl p e below P (s₁.setTop (mkF m 47 #[.val (.ref a1), .val (.int (2 : Int32)), .val (.int x)] []))
      refine Gl.st (fun _ k => XS.iconst X0.here hx rfl (hb hby d26_47) k) ?_
      show Gl p e below P (s₁.setTop (mkF m 48 #[.val (.ref a1), .val (.int (2 : Int32)), .val (.int x)] [(.int (1 : Int32))]))
      refine Gl.st (fun _ k => XS.goto X0.here hx rfl (pc0 := 48) (pc' := 52) rfl (hb hby d26_48) (by decide) (by decide) k) ?_
      show Gl p e below P (s₁.setTop (mkF m 52 #[.val (.ref a1), .val (.int (2 : Int32)), .val (.int x)] [(.int (1 : Int32))]))
      have hz1 : z = (1 : Int32) := by rcases hz with ⟨-, q⟩ | ⟨q, -⟩ <;> first | exact q | exact absurd ((own_in_iff hc).mpr ⟨0, by omega, by omega, ue0⟩) q
      obtain ⟨fs, hr, hrun, hended, hW, hsame⟩ := X0.leave (v := some (.int (1 : Int32))) (fun h => by rw [Bd.returns] at h; cases h)
      refine ⟨_, _, retN X0 hx (t := .boolean) Bd.returns (by simp) (hb hby d26_52) hr, hrun, hended, hPost _ _ ⟨_, _, rfl, ?_, ⟨_, rfl⟩, hW, hsame.mono (by decide) (by decide)⟩⟩
      show Q26 Z a1 k1 S 2 x z h0 n0 _ s₁.heap _
      rw [e0]
      exact ⟨by rw [hz1], N0, rfl⟩
    · refine Gl.st (fun _ k => XS.icmpNo X0.here hx rfl (hb hby d26_8) rfl (feq (ue0 : ¬ ((S 0) = x))).1 k) ?_
      show Gl p e below P (s₁.setTop (mkF m 11 #[.val (.ref a1), .val (.int (2 : Int32)), .val (.int x)] []))
      refine Gl.st (fun _ k => XS.iloadN X0.here hx rfl (hb hby d26_11) rfl k) ?_
      show Gl p e below P (s₁.setTop (mkF m 12 #[.val (.ref a1), .val (.int (2 : Int32)), .val (.int x)] [(.int (2 : Int32))]))
      refine Gl.st (fun _ k => XS.iconst X0.here hx rfl (hb hby d26_12) k) ?_
      show Gl p e below P (s₁.setTop (mkF m 13 #[.val (.ref a1), .val (.int (2 : Int32)), .val (.int x)] [(.int (1 : Int32)), (.int (2 : Int32))]))
      refine Gl.st (fun _ k => XS.icmpNo X0.here hx rfl (hb hby d26_13) rfl (tlt (by decide : (1 : Int32) < (2 : Int32))).2.2.2 k) ?_
      show Gl p e below P (s₁.setTop (mkF m 16 #[.val (.ref a1), .val (.int (2 : Int32)), .val (.int x)] []))
      refine Gl.st (fun _ k => XS.aloadN X0.here hx rfl (hb hby d26_16) rfl rfl k) ?_
      show Gl p e below P (s₁.setTop (mkF m 17 #[.val (.ref a1), .val (.int (2 : Int32)), .val (.int x)] [(.ref a1)]))
      refine Gl.st (fun _ k => XS.iconst X0.here hx rfl (hb hby d26_17) k) ?_
      show Gl p e below P (s₁.setTop (mkF m 18 #[.val (.ref a1), .val (.int (2 : Int32)), .val (.int x)] [(.int (1 : Int32)), (.ref a1)]))
      obtain ⟨c3, Ar3, q3, S3, M3, H3, U3⟩ := id V1
      have hin3 : ¬ ((1 : Int32) < 0 ∨ c3.slots.size ≤ ((1 : Int32)).toNatClampNeg) := (inb_of S3 ⟨(by decide : ¬ ((1 : Int32) < (0 : Int32))), (by decide : (1 : Int32) < (4 : Int32))⟩)
      have hat3 : c3.slots[((1 : Int32)).toNatClampNeg]? = some (.int (S 1)) := H3.at hin3 rfl
      refine Gl.st (X0.iaload hx (j := (1 : Int32)) (v := (.int (S 1))) (by rw [e0]; exact Ar3.1) (State.isArrayOf_alike hZ.alike Ar3.2.1) Ar3.2.2 hin3 hat3 (g := (mkF m 18 #[.val (.ref a1), .val (.int (2 : Int32)), .val (.int x)] [(.int (1 : Int32)), (.ref a1)])) rfl rfl (hb hby d26_18)) ?_
      show Gl p e below P (s₁.setTop (mkF m 19 #[.val (.ref a1), .val (.int (2 : Int32)), .val (.int x)] [(.int (S 1))]))
      refine Gl.st (fun _ k => XS.iloadN X0.here hx rfl (hb hby d26_19) rfl k) ?_
      show Gl p e below P (s₁.setTop (mkF m 20 #[.val (.ref a1), .val (.int (2 : Int32)), .val (.int x)] [(.int x), (.int (S 1))]))
      by_cases ue1 : S 1 = x
      · refine Gl.st (fun _ k => XS.icmpYes X0.here hx rfl (pc0 := 20) (pc' := 47) rfl (hb hby d26_20) rfl (teq (ue1 : (S 1) = x)).1 (by decide) (by decide) k) ?_
        show Gl p e below P (s₁.setTop (mkF m 47 #[.val (.ref a1), .val (.int (2 : Int32)), .val (.int x)] []))
        refine Gl.st (fun _ k => XS.iconst X0.here hx rfl (hb hby d26_47) k) ?_
        show Gl p e below P (s₁.setTop (mkF m 48 #[.val (.ref a1), .val (.int (2 : Int32)), .val (.int x)] [(.int (1 : Int32))]))
        refine Gl.st (fun _ k => XS.goto X0.here hx rfl (pc0 := 48) (pc' := 52) rfl (hb hby d26_48) (by decide) (by decide) k) ?_
        show Gl p e below P (s₁.setTop (mkF m 52 #[.val (.ref a1), .val (.int (2 : Int32)), .val (.int x)] [(.int (1 : Int32))]))
        have hz1 : z = (1 : Int32) := by rcases hz with ⟨-, q⟩ | ⟨q, -⟩ <;> first | exact q | exact absurd ((own_in_iff hc).mpr ⟨1, by omega, by omega, ue1⟩) q
        obtain ⟨fs, hr, hrun, hended, hW, hsame⟩ := X0.leave (v := some (.int (1 : Int32))) (fun h => by rw [Bd.returns] at h; cases h)
        refine ⟨_, _, retN X0 hx (t := .boolean) Bd.returns (by simp) (hb hby d26_52) hr, hrun, hended, hPost _ _ ⟨_, _, rfl, ?_, ⟨_, rfl⟩, hW, hsame.mono (by decide) (by decide)⟩⟩
        show Q26 Z a1 k1 S 2 x z h0 n0 _ s₁.heap _
        rw [e0]
        exact ⟨by rw [hz1], N0, rfl⟩
      · refine Gl.st (fun _ k => XS.icmpNo X0.here hx rfl (hb hby d26_20) rfl (feq (ue1 : ¬ ((S 1) = x))).1 k) ?_
        show Gl p e below P (s₁.setTop (mkF m 23 #[.val (.ref a1), .val (.int (2 : Int32)), .val (.int x)] []))
        refine Gl.st (fun _ k => XS.iloadN X0.here hx rfl (hb hby d26_23) rfl k) ?_
        show Gl p e below P (s₁.setTop (mkF m 24 #[.val (.ref a1), .val (.int (2 : Int32)), .val (.int x)] [(.int (2 : Int32))]))
        refine Gl.st (fun _ k => XS.iconst X0.here hx rfl (hb hby d26_24) k) ?_
        show Gl p e below P (s₁.setTop (mkF m 25 #[.val (.ref a1), .val (.int (2 : Int32)), .val (.int x)] [(.int (2 : Int32)), (.int (2 : Int32))]))
        refine Gl.st (fun _ k => XS.icmpYes X0.here hx rfl (pc0 := 25) (pc' := 35) rfl (hb hby d26_25) rfl (flt (by decide : ¬ ((2 : Int32) < (2 : Int32)))).2.2.2 (by decide) (by decide) k) ?_
        show Gl p e below P (s₁.setTop (mkF m 35 #[.val (.ref a1), .val (.int (2 : Int32)), .val (.int x)] []))
        refine Gl.st (fun _ k => XS.iloadN X0.here hx rfl (hb hby d26_35) rfl k) ?_
        show Gl p e below P (s₁.setTop (mkF m 36 #[.val (.ref a1), .val (.int (2 : Int32)), .val (.int x)] [(.int (2 : Int32))]))
        refine Gl.st (fun _ k => XS.iconst X0.here hx rfl (hb hby d26_36) k) ?_
        show Gl p e below P (s₁.setTop (mkF m 37 #[.val (.ref a1), .val (.int (2 : Int32)), .val (.int x)] [(.int (3 : Int32)), (.int (2 : Int32))]))
        refine Gl.st (fun _ k => XS.icmpYes X0.here hx rfl (pc0 := 37) (pc' := 51) rfl (hb hby d26_37) rfl (flt (by decide : ¬ ((3 : Int32) < (2 : Int32)))).2.2.2 (by decide) (by decide) k) ?_
        show Gl p e below P (s₁.setTop (mkF m 51 #[.val (.ref a1), .val (.int (2 : Int32)), .val (.int x)] []))
        refine Gl.st (fun _ k => XS.iconst X0.here hx rfl (hb hby d26_51) k) ?_
        show Gl p e below P (s₁.setTop (mkF m 52 #[.val (.ref a1), .val (.int (2 : Int32)), .val (.int x)] [(.int (0 : Int32))]))
        have hz0 : z = (0 : Int32) := by
          rcases hz with ⟨q, -⟩ | ⟨-, q⟩
          · obtain ⟨j, -, b2, b3⟩ := (own_in_iff hc).mp q
            have hjs : j = 0 ∨ j = 1 := by omega
            rcases hjs with rfl | rfl
            · exact absurd b3 ue0
            · exact absurd b3 ue1
          · exact q
        obtain ⟨fs, hr, hrun, hended, hW, hsame⟩ := X0.leave (v := some (.int (0 : Int32))) (fun h => by rw [Bd.returns] at h; cases h)
        refine ⟨_, _, retN X0 hx (t := .boolean) Bd.returns (by simp) (hb hby d26_52) hr, hrun, hended, hPost _ _ ⟨_, _, rfl, ?_, ⟨_, rfl⟩, hW, hsame.mono (by decide) (by decide)⟩⟩
        show Q26 Z a1 k1 S 2 x z h0 n0 _ s₁.heap _
        rw [e0]
        exact ⟨by rw [hz0], N0, rfl⟩
  · show Gl p e below P (s₁.setTop (mkF m 0 #[.val (.ref a1), .val (.int (3 : Int32)), .val (.int x)] []))
    refine Gl.st (fun _ k => XS.iloadN X0.here hx rfl (hb hby d26_0) rfl k) ?_
    show Gl p e below P (s₁.setTop (mkF m 1 #[.val (.ref a1), .val (.int (3 : Int32)), .val (.int x)] [(.int (3 : Int32))]))
    refine Gl.st (fun _ k => XS.ifNo X0.here hx rfl (hb hby d26_1) rfl ((if0 _ _).trans (tlt (by decide : (0 : Int32) < (3 : Int32))).2.2.2) k) ?_
    show Gl p e below P (s₁.setTop (mkF m 4 #[.val (.ref a1), .val (.int (3 : Int32)), .val (.int x)] []))
    refine Gl.st (fun _ k => XS.aloadN X0.here hx rfl (hb hby d26_4) rfl rfl k) ?_
    show Gl p e below P (s₁.setTop (mkF m 5 #[.val (.ref a1), .val (.int (3 : Int32)), .val (.int x)] [(.ref a1)]))
    refine Gl.st (fun _ k => XS.iconst X0.here hx rfl (hb hby d26_5) k) ?_
    show Gl p e below P (s₁.setTop (mkF m 6 #[.val (.ref a1), .val (.int (3 : Int32)), .val (.int x)] [(.int (0 : Int32)), (.ref a1)]))
    obtain ⟨c4, Ar4, q4, S4, M4, H4, U4⟩ := id V1
    have hin4 : ¬ ((0 : Int32) < 0 ∨ c4.slots.size ≤ ((0 : Int32)).toNatClampNeg) := (inb_of S4 ⟨(by decide : ¬ ((0 : Int32) < (0 : Int32))), (by decide : (0 : Int32) < (4 : Int32))⟩)
    have hat4 : c4.slots[((0 : Int32)).toNatClampNeg]? = some (.int (S 0)) := H4.at hin4 rfl
    refine Gl.st (X0.iaload hx (j := (0 : Int32)) (v := (.int (S 0))) (by rw [e0]; exact Ar4.1) (State.isArrayOf_alike hZ.alike Ar4.2.1) Ar4.2.2 hin4 hat4 (g := (mkF m 6 #[.val (.ref a1), .val (.int (3 : Int32)), .val (.int x)] [(.int (0 : Int32)), (.ref a1)])) rfl rfl (hb hby d26_6)) ?_
    show Gl p e below P (s₁.setTop (mkF m 7 #[.val (.ref a1), .val (.int (3 : Int32)), .val (.int x)] [(.int (S 0))]))
    refine Gl.st (fun _ k => XS.iloadN X0.here hx rfl (hb hby d26_7) rfl k) ?_
    show Gl p e below P (s₁.setTop (mkF m 8 #[.val (.ref a1), .val (.int (3 : Int32)), .val (.int x)] [(.int x), (.int (S 0))]))
    by_cases ue0 : S 0 = x
    · refine Gl.st (fun _ k => XS.icmpYes X0.here hx rfl (pc0 := 8) (pc' := 47) rfl (hb hby d26_8) rfl (teq (ue0 : (S 0) = x)).1 (by decide) (by decide) k) ?_
      show Gl p e below P (s₁.setTop (mkF m 47 #[.val (.ref a1), .val (.int (3 : Int32)), .val (.int x)] []))
      refine Gl.st (fun _ k => XS.iconst X0.here hx rfl (hb hby d26_47) k) ?_
      show Gl p e below P (s₁.setTop (mkF m 48 #[.val (.ref a1), .val (.int (3 : Int32)), .val (.int x)] [(.int (1 : Int32))]))
      refine Gl.st (fun _ k => XS.goto X0.here hx rfl (pc0 := 48) (pc' := 52) rfl (hb hby d26_48) (by decide) (by decide) k) ?_
      show Gl p e below P (s₁.setTop (mkF m 52 #[.val (.ref a1), .val (.int (3 : Int32)), .val (.int x)] [(.int (1 : Int32))]))
      have hz1 : z = (1 : Int32) := by rcases hz with ⟨-, q⟩ | ⟨q, -⟩ <;> first | exact q | exact absurd ((own_in_iff hc).mpr ⟨0, by omega, by omega, ue0⟩) q
      obtain ⟨fs, hr, hrun, hended, hW, hsame⟩ := X0.leave (v := some (.int (1 : Int32))) (fun h => by rw [Bd.returns] at h; cases h)
      refine ⟨_, _, retN X0 hx (t := .boolean) Bd.returns (by simp) (hb hby d26_52) hr, hrun, hended, hPost _ _ ⟨_, _, rfl, ?_, ⟨_, rfl⟩, hW, hsame.mono (by decide) (by decide)⟩⟩
      show Q26 Z a1 k1 S 3 x z h0 n0 _ s₁.heap _
      rw [e0]
      exact ⟨by rw [hz1], N0, rfl⟩
    · refine Gl.st (fun _ k => XS.icmpNo X0.here hx rfl (hb hby d26_8) rfl (feq (ue0 : ¬ ((S 0) = x))).1 k) ?_
      show Gl p e below P (s₁.setTop (mkF m 11 #[.val (.ref a1), .val (.int (3 : Int32)), .val (.int x)] []))
      refine Gl.st (fun _ k => XS.iloadN X0.here hx rfl (hb hby d26_11) rfl k) ?_
      show Gl p e below P (s₁.setTop (mkF m 12 #[.val (.ref a1), .val (.int (3 : Int32)), .val (.int x)] [(.int (3 : Int32))]))
      refine Gl.st (fun _ k => XS.iconst X0.here hx rfl (hb hby d26_12) k) ?_
      show Gl p e below P (s₁.setTop (mkF m 13 #[.val (.ref a1), .val (.int (3 : Int32)), .val (.int x)] [(.int (1 : Int32)), (.int (3 : Int32))]))
      refine Gl.st (fun _ k => XS.icmpNo X0.here hx rfl (hb hby d26_13) rfl (tlt (by decide : (1 : Int32) < (3 : Int32))).2.2.2 k) ?_
      show Gl p e below P (s₁.setTop (mkF m 16 #[.val (.ref a1), .val (.int (3 : Int32)), .val (.int x)] []))
      refine Gl.st (fun _ k => XS.aloadN X0.here hx rfl (hb hby d26_16) rfl rfl k) ?_
      show Gl p e below P (s₁.setTop (mkF m 17 #[.val (.ref a1), .val (.int (3 : Int32)), .val (.int x)] [(.ref a1)]))
      refine Gl.st (fun _ k => XS.iconst X0.here hx rfl (hb hby d26_17) k) ?_
      show Gl p e below P (s₁.setTop (mkF m 18 #[.val (.ref a1), .val (.int (3 : Int32)), .val (.int x)] [(.int (1 : Int32)), (.ref a1)]))
      obtain ⟨c5, Ar5, q5, S5, M5, H5, U5⟩ := id V1
      have hin5 : ¬ ((1 : Int32) < 0 ∨ c5.slots.size ≤ ((1 : Int32)).toNatClampNeg) := (inb_of S5 ⟨(by decide : ¬ ((1 : Int32) < (0 : Int32))), (by decide : (1 : Int32) < (4 : Int32))⟩)
      have hat5 : c5.slots[((1 : Int32)).toNatClampNeg]? = some (.int (S 1)) := H5.at hin5 rfl
      refine Gl.st (X0.iaload hx (j := (1 : Int32)) (v := (.int (S 1))) (by rw [e0]; exact Ar5.1) (State.isArrayOf_alike hZ.alike Ar5.2.1) Ar5.2.2 hin5 hat5 (g := (mkF m 18 #[.val (.ref a1), .val (.int (3 : Int32)), .val (.int x)] [(.int (1 : Int32)), (.ref a1)])) rfl rfl (hb hby d26_18)) ?_
      show Gl p e below P (s₁.setTop (mkF m 19 #[.val (.ref a1), .val (.int (3 : Int32)), .val (.int x)] [(.int (S 1))]))
      refine Gl.st (fun _ k => XS.iloadN X0.here hx rfl (hb hby d26_19) rfl k) ?_
      show Gl p e below P (s₁.setTop (mkF m 20 #[.val (.ref a1), .val (.int (3 : Int32)), .val (.int x)] [(.int x), (.int (S 1))]))
      by_cases ue1 : S 1 = x
      · refine Gl.st (fun _ k => XS.icmpYes X0.here hx rfl (pc0 := 20) (pc' := 47) rfl (hb hby d26_20) rfl (teq (ue1 : (S 1) = x)).1 (by decide) (by decide) k) ?_
        show Gl p e below P (s₁.setTop (mkF m 47 #[.val (.ref a1), .val (.int (3 : Int32)), .val (.int x)] []))
        refine Gl.st (fun _ k => XS.iconst X0.here hx rfl (hb hby d26_47) k) ?_
        show Gl p e below P (s₁.setTop (mkF m 48 #[.val (.ref a1), .val (.int (3 : Int32)), .val (.int x)] [(.int (1 : Int32))]))
        refine Gl.st (fun _ k => XS.goto X0.here hx rfl (pc0 := 48) (pc' := 52) rfl (hb hby d26_48) (by decide) (by decide) k) ?_
        show Gl p e below P (s₁.setTop (mkF m 52 #[.val (.ref a1), .val (.int (3 : Int32)), .val (.int x)] [(.int (1 : Int32))]))
        have hz1 : z = (1 : Int32) := by rcases hz with ⟨-, q⟩ | ⟨q, -⟩ <;> first | exact q | exact absurd ((own_in_iff hc).mpr ⟨1, by omega, by omega, ue1⟩) q
        obtain ⟨fs, hr, hrun, hended, hW, hsame⟩ := X0.leave (v := some (.int (1 : Int32))) (fun h => by rw [Bd.returns] at h; cases h)
        refine ⟨_, _, retN X0 hx (t := .boolean) Bd.returns (by simp) (hb hby d26_52) hr, hrun, hended, hPost _ _ ⟨_, _, rfl, ?_, ⟨_, rfl⟩, hW, hsame.mono (by decide) (by decide)⟩⟩
        show Q26 Z a1 k1 S 3 x z h0 n0 _ s₁.heap _
        rw [e0]
        exact ⟨by rw [hz1], N0, rfl⟩
      · refine Gl.st (fun _ k => XS.icmpNo X0.here hx rfl (hb hby d26_20) rfl (feq (ue1 : ¬ ((S 1) = x))).1 k) ?_
        show Gl p e below P (s₁.setTop (mkF m 23 #[.val (.ref a1), .val (.int (3 : Int32)), .val (.int x)] []))
        refine Gl.st (fun _ k => XS.iloadN X0.here hx rfl (hb hby d26_23) rfl k) ?_
        show Gl p e below P (s₁.setTop (mkF m 24 #[.val (.ref a1), .val (.int (3 : Int32)), .val (.int x)] [(.int (3 : Int32))]))
        refine Gl.st (fun _ k => XS.iconst X0.here hx rfl (hb hby d26_24) k) ?_
        show Gl p e below P (s₁.setTop (mkF m 25 #[.val (.ref a1), .val (.int (3 : Int32)), .val (.int x)] [(.int (2 : Int32)), (.int (3 : Int32))]))
        refine Gl.st (fun _ k => XS.icmpNo X0.here hx rfl (hb hby d26_25) rfl (tlt (by decide : (2 : Int32) < (3 : Int32))).2.2.2 k) ?_
        show Gl p e below P (s₁.setTop (mkF m 28 #[.val (.ref a1), .val (.int (3 : Int32)), .val (.int x)] []))
        refine Gl.st (fun _ k => XS.aloadN X0.here hx rfl (hb hby d26_28) rfl rfl k) ?_
        show Gl p e below P (s₁.setTop (mkF m 29 #[.val (.ref a1), .val (.int (3 : Int32)), .val (.int x)] [(.ref a1)]))
        refine Gl.st (fun _ k => XS.iconst X0.here hx rfl (hb hby d26_29) k) ?_
        show Gl p e below P (s₁.setTop (mkF m 30 #[.val (.ref a1), .val (.int (3 : Int32)), .val (.int x)] [(.int (2 : Int32)), (.ref a1)]))
        obtain ⟨c6, Ar6, q6, S6, M6, H6, U6⟩ := id V1
        have hin6 : ¬ ((2 : Int32) < 0 ∨ c6.slots.size ≤ ((2 : Int32)).toNatClampNeg) := (inb_of S6 ⟨(by decide : ¬ ((2 : Int32) < (0 : Int32))), (by decide : (2 : Int32) < (4 : Int32))⟩)
        have hat6 : c6.slots[((2 : Int32)).toNatClampNeg]? = some (.int (S 2)) := H6.at hin6 rfl
        refine Gl.st (X0.iaload hx (j := (2 : Int32)) (v := (.int (S 2))) (by rw [e0]; exact Ar6.1) (State.isArrayOf_alike hZ.alike Ar6.2.1) Ar6.2.2 hin6 hat6 (g := (mkF m 30 #[.val (.ref a1), .val (.int (3 : Int32)), .val (.int x)] [(.int (2 : Int32)), (.ref a1)])) rfl rfl (hb hby d26_30)) ?_
        show Gl p e below P (s₁.setTop (mkF m 31 #[.val (.ref a1), .val (.int (3 : Int32)), .val (.int x)] [(.int (S 2))]))
        refine Gl.st (fun _ k => XS.iloadN X0.here hx rfl (hb hby d26_31) rfl k) ?_
        show Gl p e below P (s₁.setTop (mkF m 32 #[.val (.ref a1), .val (.int (3 : Int32)), .val (.int x)] [(.int x), (.int (S 2))]))
        by_cases ue2 : S 2 = x
        · refine Gl.st (fun _ k => XS.icmpYes X0.here hx rfl (pc0 := 32) (pc' := 47) rfl (hb hby d26_32) rfl (teq (ue2 : (S 2) = x)).1 (by decide) (by decide) k) ?_
          show Gl p e below P (s₁.setTop (mkF m 47 #[.val (.ref a1), .val (.int (3 : Int32)), .val (.int x)] []))
          refine Gl.st (fun _ k => XS.iconst X0.here hx rfl (hb hby d26_47) k) ?_
          show Gl p e below P (s₁.setTop (mkF m 48 #[.val (.ref a1), .val (.int (3 : Int32)), .val (.int x)] [(.int (1 : Int32))]))
          refine Gl.st (fun _ k => XS.goto X0.here hx rfl (pc0 := 48) (pc' := 52) rfl (hb hby d26_48) (by decide) (by decide) k) ?_
          show Gl p e below P (s₁.setTop (mkF m 52 #[.val (.ref a1), .val (.int (3 : Int32)), .val (.int x)] [(.int (1 : Int32))]))
          have hz1 : z = (1 : Int32) := by rcases hz with ⟨-, q⟩ | ⟨q, -⟩ <;> first | exact q | exact absurd ((own_in_iff hc).mpr ⟨2, by omega, by omega, ue2⟩) q
          obtain ⟨fs, hr, hrun, hended, hW, hsame⟩ := X0.leave (v := some (.int (1 : Int32))) (fun h => by rw [Bd.returns] at h; cases h)
          refine ⟨_, _, retN X0 hx (t := .boolean) Bd.returns (by simp) (hb hby d26_52) hr, hrun, hended, hPost _ _ ⟨_, _, rfl, ?_, ⟨_, rfl⟩, hW, hsame.mono (by decide) (by decide)⟩⟩
          show Q26 Z a1 k1 S 3 x z h0 n0 _ s₁.heap _
          rw [e0]
          exact ⟨by rw [hz1], N0, rfl⟩
        · refine Gl.st (fun _ k => XS.icmpNo X0.here hx rfl (hb hby d26_32) rfl (feq (ue2 : ¬ ((S 2) = x))).1 k) ?_
          show Gl p e below P (s₁.setTop (mkF m 35 #[.val (.ref a1), .val (.int (3 : Int32)), .val (.int x)] []))
          refine Gl.st (fun _ k => XS.iloadN X0.here hx rfl (hb hby d26_35) rfl k) ?_
          show Gl p e below P (s₁.setTop (mkF m 36 #[.val (.ref a1), .val (.int (3 : Int32)), .val (.int x)] [(.int (3 : Int32))]))
          refine Gl.st (fun _ k => XS.iconst X0.here hx rfl (hb hby d26_36) k) ?_
          show Gl p e below P (s₁.setTop (mkF m 37 #[.val (.ref a1), .val (.int (3 : Int32)), .val (.int x)] [(.int (3 : Int32)), (.int (3 : Int32))]))
          refine Gl.st (fun _ k => XS.icmpYes X0.here hx rfl (pc0 := 37) (pc' := 51) rfl (hb hby d26_37) rfl (flt (by decide : ¬ ((3 : Int32) < (3 : Int32)))).2.2.2 (by decide) (by decide) k) ?_
          show Gl p e below P (s₁.setTop (mkF m 51 #[.val (.ref a1), .val (.int (3 : Int32)), .val (.int x)] []))
          refine Gl.st (fun _ k => XS.iconst X0.here hx rfl (hb hby d26_51) k) ?_
          show Gl p e below P (s₁.setTop (mkF m 52 #[.val (.ref a1), .val (.int (3 : Int32)), .val (.int x)] [(.int (0 : Int32))]))
          have hz0 : z = (0 : Int32) := by
            rcases hz with ⟨q, -⟩ | ⟨-, q⟩
            · obtain ⟨j, -, b2, b3⟩ := (own_in_iff hc).mp q
              have hjs : j = 0 ∨ j = 1 ∨ j = 2 := by omega
              rcases hjs with rfl | rfl | rfl
              · exact absurd b3 ue0
              · exact absurd b3 ue1
              · exact absurd b3 ue2
            · exact q
          obtain ⟨fs, hr, hrun, hended, hW, hsame⟩ := X0.leave (v := some (.int (0 : Int32))) (fun h => by rw [Bd.returns] at h; cases h)
          refine ⟨_, _, retN X0 hx (t := .boolean) Bd.returns (by simp) (hb hby d26_52) hr, hrun, hended, hPost _ _ ⟨_, _, rfl, ?_, ⟨_, rfl⟩, hW, hsame.mono (by decide) (by decide)⟩⟩
          show Q26 Z a1 k1 S 3 x z h0 n0 _ s₁.heap _
          rw [e0]
          exact ⟨by rw [hz0], N0, rfl⟩
  · show Gl p e below P (s₁.setTop (mkF m 0 #[.val (.ref a1), .val (.int (4 : Int32)), .val (.int x)] []))
    refine Gl.st (fun _ k => XS.iloadN X0.here hx rfl (hb hby d26_0) rfl k) ?_
    show Gl p e below P (s₁.setTop (mkF m 1 #[.val (.ref a1), .val (.int (4 : Int32)), .val (.int x)] [(.int (4 : Int32))]))
    refine Gl.st (fun _ k => XS.ifNo X0.here hx rfl (hb hby d26_1) rfl ((if0 _ _).trans (tlt (by decide : (0 : Int32) < (4 : Int32))).2.2.2) k) ?_
    show Gl p e below P (s₁.setTop (mkF m 4 #[.val (.ref a1), .val (.int (4 : Int32)), .val (.int x)] []))
    refine Gl.st (fun _ k => XS.aloadN X0.here hx rfl (hb hby d26_4) rfl rfl k) ?_
    show Gl p e below P (s₁.setTop (mkF m 5 #[.val (.ref a1), .val (.int (4 : Int32)), .val (.int x)] [(.ref a1)]))
    refine Gl.st (fun _ k => XS.iconst X0.here hx rfl (hb hby d26_5) k) ?_
    show Gl p e below P (s₁.setTop (mkF m 6 #[.val (.ref a1), .val (.int (4 : Int32)), .val (.int x)] [(.int (0 : Int32)), (.ref a1)]))
    obtain ⟨c7, Ar7, q7, S7, M7, H7, U7⟩ := id V1
    have hin7 : ¬ ((0 : Int32) < 0 ∨ c7.slots.size ≤ ((0 : Int32)).toNatClampNeg) := (inb_of S7 ⟨(by decide : ¬ ((0 : Int32) < (0 : Int32))), (by decide : (0 : Int32) < (4 : Int32))⟩)
    have hat7 : c7.slots[((0 : Int32)).toNatClampNeg]? = some (.int (S 0)) := H7.at hin7 rfl
    refine Gl.st (X0.iaload hx (j := (0 : Int32)) (v := (.int (S 0))) (by rw [e0]; exact Ar7.1) (State.isArrayOf_alike hZ.alike Ar7.2.1) Ar7.2.2 hin7 hat7 (g := (mkF m 6 #[.val (.ref a1), .val (.int (4 : Int32)), .val (.int x)] [(.int (0 : Int32)), (.ref a1)])) rfl rfl (hb hby d26_6)) ?_
    show Gl p e below P (s₁.setTop (mkF m 7 #[.val (.ref a1), .val (.int (4 : Int32)), .val (.int x)] [(.int (S 0))]))
    refine Gl.st (fun _ k => XS.iloadN X0.here hx rfl (hb hby d26_7) rfl k) ?_
    show Gl p e below P (s₁.setTop (mkF m 8 #[.val (.ref a1), .val (.int (4 : Int32)), .val (.int x)] [(.int x), (.int (S 0))]))
    by_cases ue0 : S 0 = x
    · refine Gl.st (fun _ k => XS.icmpYes X0.here hx rfl (pc0 := 8) (pc' := 47) rfl (hb hby d26_8) rfl (teq (ue0 : (S 0) = x)).1 (by decide) (by decide) k) ?_
      show Gl p e below P (s₁.setTop (mkF m 47 #[.val (.ref a1), .val (.int (4 : Int32)), .val (.int x)] []))
      refine Gl.st (fun _ k => XS.iconst X0.here hx rfl (hb hby d26_47) k) ?_
      show Gl p e below P (s₁.setTop (mkF m 48 #[.val (.ref a1), .val (.int (4 : Int32)), .val (.int x)] [(.int (1 : Int32))]))
      refine Gl.st (fun _ k => XS.goto X0.here hx rfl (pc0 := 48) (pc' := 52) rfl (hb hby d26_48) (by decide) (by decide) k) ?_
      show Gl p e below P (s₁.setTop (mkF m 52 #[.val (.ref a1), .val (.int (4 : Int32)), .val (.int x)] [(.int (1 : Int32))]))
      have hz1 : z = (1 : Int32) := by rcases hz with ⟨-, q⟩ | ⟨q, -⟩ <;> first | exact q | exact absurd ((own_in_iff hc).mpr ⟨0, by omega, by omega, ue0⟩) q
      obtain ⟨fs, hr, hrun, hended, hW, hsame⟩ := X0.leave (v := some (.int (1 : Int32))) (fun h => by rw [Bd.returns] at h; cases h)
      refine ⟨_, _, retN X0 hx (t := .boolean) Bd.returns (by simp) (hb hby d26_52) hr, hrun, hended, hPost _ _ ⟨_, _, rfl, ?_, ⟨_, rfl⟩, hW, hsame.mono (by decide) (by decide)⟩⟩
      show Q26 Z a1 k1 S 4 x z h0 n0 _ s₁.heap _
      rw [e0]
      exact ⟨by rw [hz1], N0, rfl⟩
    · refine Gl.st (fun _ k => XS.icmpNo X0.here hx rfl (hb hby d26_8) rfl (feq (ue0 : ¬ ((S 0) = x))).1 k) ?_
      show Gl p e below P (s₁.setTop (mkF m 11 #[.val (.ref a1), .val (.int (4 : Int32)), .val (.int x)] []))
      refine Gl.st (fun _ k => XS.iloadN X0.here hx rfl (hb hby d26_11) rfl k) ?_
      show Gl p e below P (s₁.setTop (mkF m 12 #[.val (.ref a1), .val (.int (4 : Int32)), .val (.int x)] [(.int (4 : Int32))]))
      refine Gl.st (fun _ k => XS.iconst X0.here hx rfl (hb hby d26_12) k) ?_
      show Gl p e below P (s₁.setTop (mkF m 13 #[.val (.ref a1), .val (.int (4 : Int32)), .val (.int x)] [(.int (1 : Int32)), (.int (4 : Int32))]))
      refine Gl.st (fun _ k => XS.icmpNo X0.here hx rfl (hb hby d26_13) rfl (tlt (by decide : (1 : Int32) < (4 : Int32))).2.2.2 k) ?_
      show Gl p e below P (s₁.setTop (mkF m 16 #[.val (.ref a1), .val (.int (4 : Int32)), .val (.int x)] []))
      refine Gl.st (fun _ k => XS.aloadN X0.here hx rfl (hb hby d26_16) rfl rfl k) ?_
      show Gl p e below P (s₁.setTop (mkF m 17 #[.val (.ref a1), .val (.int (4 : Int32)), .val (.int x)] [(.ref a1)]))
      refine Gl.st (fun _ k => XS.iconst X0.here hx rfl (hb hby d26_17) k) ?_
      show Gl p e below P (s₁.setTop (mkF m 18 #[.val (.ref a1), .val (.int (4 : Int32)), .val (.int x)] [(.int (1 : Int32)), (.ref a1)]))
      obtain ⟨c8, Ar8, q8, S8, M8, H8, U8⟩ := id V1
      have hin8 : ¬ ((1 : Int32) < 0 ∨ c8.slots.size ≤ ((1 : Int32)).toNatClampNeg) := (inb_of S8 ⟨(by decide : ¬ ((1 : Int32) < (0 : Int32))), (by decide : (1 : Int32) < (4 : Int32))⟩)
      have hat8 : c8.slots[((1 : Int32)).toNatClampNeg]? = some (.int (S 1)) := H8.at hin8 rfl
      refine Gl.st (X0.iaload hx (j := (1 : Int32)) (v := (.int (S 1))) (by rw [e0]; exact Ar8.1) (State.isArrayOf_alike hZ.alike Ar8.2.1) Ar8.2.2 hin8 hat8 (g := (mkF m 18 #[.val (.ref a1), .val (.int (4 : Int32)), .val (.int x)] [(.int (1 : Int32)), (.ref a1)])) rfl rfl (hb hby d26_18)) ?_
      show Gl p e below P (s₁.setTop (mkF m 19 #[.val (.ref a1), .val (.int (4 : Int32)), .val (.int x)] [(.int (S 1))]))
      refine Gl.st (fun _ k => XS.iloadN X0.here hx rfl (hb hby d26_19) rfl k) ?_
      show Gl p e below P (s₁.setTop (mkF m 20 #[.val (.ref a1), .val (.int (4 : Int32)), .val (.int x)] [(.int x), (.int (S 1))]))
      by_cases ue1 : S 1 = x
      · refine Gl.st (fun _ k => XS.icmpYes X0.here hx rfl (pc0 := 20) (pc' := 47) rfl (hb hby d26_20) rfl (teq (ue1 : (S 1) = x)).1 (by decide) (by decide) k) ?_
        show Gl p e below P (s₁.setTop (mkF m 47 #[.val (.ref a1), .val (.int (4 : Int32)), .val (.int x)] []))
        refine Gl.st (fun _ k => XS.iconst X0.here hx rfl (hb hby d26_47) k) ?_
        show Gl p e below P (s₁.setTop (mkF m 48 #[.val (.ref a1), .val (.int (4 : Int32)), .val (.int x)] [(.int (1 : Int32))]))
        refine Gl.st (fun _ k => XS.goto X0.here hx rfl (pc0 := 48) (pc' := 52) rfl (hb hby d26_48) (by decide) (by decide) k) ?_
        show Gl p e below P (s₁.setTop (mkF m 52 #[.val (.ref a1), .val (.int (4 : Int32)), .val (.int x)] [(.int (1 : Int32))]))
        have hz1 : z = (1 : Int32) := by rcases hz with ⟨-, q⟩ | ⟨q, -⟩ <;> first | exact q | exact absurd ((own_in_iff hc).mpr ⟨1, by omega, by omega, ue1⟩) q
        obtain ⟨fs, hr, hrun, hended, hW, hsame⟩ := X0.leave (v := some (.int (1 : Int32))) (fun h => by rw [Bd.returns] at h; cases h)
        refine ⟨_, _, retN X0 hx (t := .boolean) Bd.returns (by simp) (hb hby d26_52) hr, hrun, hended, hPost _ _ ⟨_, _, rfl, ?_, ⟨_, rfl⟩, hW, hsame.mono (by decide) (by decide)⟩⟩
        show Q26 Z a1 k1 S 4 x z h0 n0 _ s₁.heap _
        rw [e0]
        exact ⟨by rw [hz1], N0, rfl⟩
      · refine Gl.st (fun _ k => XS.icmpNo X0.here hx rfl (hb hby d26_20) rfl (feq (ue1 : ¬ ((S 1) = x))).1 k) ?_
        show Gl p e below P (s₁.setTop (mkF m 23 #[.val (.ref a1), .val (.int (4 : Int32)), .val (.int x)] []))
        refine Gl.st (fun _ k => XS.iloadN X0.here hx rfl (hb hby d26_23) rfl k) ?_
        show Gl p e below P (s₁.setTop (mkF m 24 #[.val (.ref a1), .val (.int (4 : Int32)), .val (.int x)] [(.int (4 : Int32))]))
        refine Gl.st (fun _ k => XS.iconst X0.here hx rfl (hb hby d26_24) k) ?_
        show Gl p e below P (s₁.setTop (mkF m 25 #[.val (.ref a1), .val (.int (4 : Int32)), .val (.int x)] [(.int (2 : Int32)), (.int (4 : Int32))]))
        refine Gl.st (fun _ k => XS.icmpNo X0.here hx rfl (hb hby d26_25) rfl (tlt (by decide : (2 : Int32) < (4 : Int32))).2.2.2 k) ?_
        show Gl p e below P (s₁.setTop (mkF m 28 #[.val (.ref a1), .val (.int (4 : Int32)), .val (.int x)] []))
        refine Gl.st (fun _ k => XS.aloadN X0.here hx rfl (hb hby d26_28) rfl rfl k) ?_
        show Gl p e below P (s₁.setTop (mkF m 29 #[.val (.ref a1), .val (.int (4 : Int32)), .val (.int x)] [(.ref a1)]))
        refine Gl.st (fun _ k => XS.iconst X0.here hx rfl (hb hby d26_29) k) ?_
        show Gl p e below P (s₁.setTop (mkF m 30 #[.val (.ref a1), .val (.int (4 : Int32)), .val (.int x)] [(.int (2 : Int32)), (.ref a1)]))
        obtain ⟨c9, Ar9, q9, S9, M9, H9, U9⟩ := id V1
        have hin9 : ¬ ((2 : Int32) < 0 ∨ c9.slots.size ≤ ((2 : Int32)).toNatClampNeg) := (inb_of S9 ⟨(by decide : ¬ ((2 : Int32) < (0 : Int32))), (by decide : (2 : Int32) < (4 : Int32))⟩)
        have hat9 : c9.slots[((2 : Int32)).toNatClampNeg]? = some (.int (S 2)) := H9.at hin9 rfl
        refine Gl.st (X0.iaload hx (j := (2 : Int32)) (v := (.int (S 2))) (by rw [e0]; exact Ar9.1) (State.isArrayOf_alike hZ.alike Ar9.2.1) Ar9.2.2 hin9 hat9 (g := (mkF m 30 #[.val (.ref a1), .val (.int (4 : Int32)), .val (.int x)] [(.int (2 : Int32)), (.ref a1)])) rfl rfl (hb hby d26_30)) ?_
        show Gl p e below P (s₁.setTop (mkF m 31 #[.val (.ref a1), .val (.int (4 : Int32)), .val (.int x)] [(.int (S 2))]))
        refine Gl.st (fun _ k => XS.iloadN X0.here hx rfl (hb hby d26_31) rfl k) ?_
        show Gl p e below P (s₁.setTop (mkF m 32 #[.val (.ref a1), .val (.int (4 : Int32)), .val (.int x)] [(.int x), (.int (S 2))]))
        by_cases ue2 : S 2 = x
        · refine Gl.st (fun _ k => XS.icmpYes X0.here hx rfl (pc0 := 32) (pc' := 47) rfl (hb hby d26_32) rfl (teq (ue2 : (S 2) = x)).1 (by decide) (by decide) k) ?_
          show Gl p e below P (s₁.setTop (mkF m 47 #[.val (.ref a1), .val (.int (4 : Int32)), .val (.int x)] []))
          refine Gl.st (fun _ k => XS.iconst X0.here hx rfl (hb hby d26_47) k) ?_
          show Gl p e below P (s₁.setTop (mkF m 48 #[.val (.ref a1), .val (.int (4 : Int32)), .val (.int x)] [(.int (1 : Int32))]))
          refine Gl.st (fun _ k => XS.goto X0.here hx rfl (pc0 := 48) (pc' := 52) rfl (hb hby d26_48) (by decide) (by decide) k) ?_
          show Gl p e below P (s₁.setTop (mkF m 52 #[.val (.ref a1), .val (.int (4 : Int32)), .val (.int x)] [(.int (1 : Int32))]))
          have hz1 : z = (1 : Int32) := by rcases hz with ⟨-, q⟩ | ⟨q, -⟩ <;> first | exact q | exact absurd ((own_in_iff hc).mpr ⟨2, by omega, by omega, ue2⟩) q
          obtain ⟨fs, hr, hrun, hended, hW, hsame⟩ := X0.leave (v := some (.int (1 : Int32))) (fun h => by rw [Bd.returns] at h; cases h)
          refine ⟨_, _, retN X0 hx (t := .boolean) Bd.returns (by simp) (hb hby d26_52) hr, hrun, hended, hPost _ _ ⟨_, _, rfl, ?_, ⟨_, rfl⟩, hW, hsame.mono (by decide) (by decide)⟩⟩
          show Q26 Z a1 k1 S 4 x z h0 n0 _ s₁.heap _
          rw [e0]
          exact ⟨by rw [hz1], N0, rfl⟩
        · refine Gl.st (fun _ k => XS.icmpNo X0.here hx rfl (hb hby d26_32) rfl (feq (ue2 : ¬ ((S 2) = x))).1 k) ?_
          show Gl p e below P (s₁.setTop (mkF m 35 #[.val (.ref a1), .val (.int (4 : Int32)), .val (.int x)] []))
          refine Gl.st (fun _ k => XS.iloadN X0.here hx rfl (hb hby d26_35) rfl k) ?_
          show Gl p e below P (s₁.setTop (mkF m 36 #[.val (.ref a1), .val (.int (4 : Int32)), .val (.int x)] [(.int (4 : Int32))]))
          refine Gl.st (fun _ k => XS.iconst X0.here hx rfl (hb hby d26_36) k) ?_
          show Gl p e below P (s₁.setTop (mkF m 37 #[.val (.ref a1), .val (.int (4 : Int32)), .val (.int x)] [(.int (3 : Int32)), (.int (4 : Int32))]))
          refine Gl.st (fun _ k => XS.icmpNo X0.here hx rfl (hb hby d26_37) rfl (tlt (by decide : (3 : Int32) < (4 : Int32))).2.2.2 k) ?_
          show Gl p e below P (s₁.setTop (mkF m 40 #[.val (.ref a1), .val (.int (4 : Int32)), .val (.int x)] []))
          refine Gl.st (fun _ k => XS.aloadN X0.here hx rfl (hb hby d26_40) rfl rfl k) ?_
          show Gl p e below P (s₁.setTop (mkF m 41 #[.val (.ref a1), .val (.int (4 : Int32)), .val (.int x)] [(.ref a1)]))
          refine Gl.st (fun _ k => XS.iconst X0.here hx rfl (hb hby d26_41) k) ?_
          show Gl p e below P (s₁.setTop (mkF m 42 #[.val (.ref a1), .val (.int (4 : Int32)), .val (.int x)] [(.int (3 : Int32)), (.ref a1)]))
          obtain ⟨c10, Ar10, q10, S10, M10, H10, U10⟩ := id V1
          have hin10 : ¬ ((3 : Int32) < 0 ∨ c10.slots.size ≤ ((3 : Int32)).toNatClampNeg) := (inb_of S10 ⟨(by decide : ¬ ((3 : Int32) < (0 : Int32))), (by decide : (3 : Int32) < (4 : Int32))⟩)
          have hat10 : c10.slots[((3 : Int32)).toNatClampNeg]? = some (.int (S 3)) := H10.at hin10 rfl
          refine Gl.st (X0.iaload hx (j := (3 : Int32)) (v := (.int (S 3))) (by rw [e0]; exact Ar10.1) (State.isArrayOf_alike hZ.alike Ar10.2.1) Ar10.2.2 hin10 hat10 (g := (mkF m 42 #[.val (.ref a1), .val (.int (4 : Int32)), .val (.int x)] [(.int (3 : Int32)), (.ref a1)])) rfl rfl (hb hby d26_42)) ?_
          show Gl p e below P (s₁.setTop (mkF m 43 #[.val (.ref a1), .val (.int (4 : Int32)), .val (.int x)] [(.int (S 3))]))
          refine Gl.st (fun _ k => XS.iloadN X0.here hx rfl (hb hby d26_43) rfl k) ?_
          show Gl p e below P (s₁.setTop (mkF m 44 #[.val (.ref a1), .val (.int (4 : Int32)), .val (.int x)] [(.int x), (.int (S 3))]))
          by_cases ue3 : S 3 = x
          · refine Gl.st (fun _ k => XS.icmpNo X0.here hx rfl (hb hby d26_44) rfl (teq (ue3 : (S 3) = x)).2 k) ?_
            show Gl p e below P (s₁.setTop (mkF m 47 #[.val (.ref a1), .val (.int (4 : Int32)), .val (.int x)] []))
            refine Gl.st (fun _ k => XS.iconst X0.here hx rfl (hb hby d26_47) k) ?_
            show Gl p e below P (s₁.setTop (mkF m 48 #[.val (.ref a1), .val (.int (4 : Int32)), .val (.int x)] [(.int (1 : Int32))]))
            refine Gl.st (fun _ k => XS.goto X0.here hx rfl (pc0 := 48) (pc' := 52) rfl (hb hby d26_48) (by decide) (by decide) k) ?_
            show Gl p e below P (s₁.setTop (mkF m 52 #[.val (.ref a1), .val (.int (4 : Int32)), .val (.int x)] [(.int (1 : Int32))]))
            have hz1 : z = (1 : Int32) := by rcases hz with ⟨-, q⟩ | ⟨q, -⟩ <;> first | exact q | exact absurd ((own_in_iff hc).mpr ⟨3, by omega, by omega, ue3⟩) q
            obtain ⟨fs, hr, hrun, hended, hW, hsame⟩ := X0.leave (v := some (.int (1 : Int32))) (fun h => by rw [Bd.returns] at h; cases h)
            refine ⟨_, _, retN X0 hx (t := .boolean) Bd.returns (by simp) (hb hby d26_52) hr, hrun, hended, hPost _ _ ⟨_, _, rfl, ?_, ⟨_, rfl⟩, hW, hsame.mono (by decide) (by decide)⟩⟩
            show Q26 Z a1 k1 S 4 x z h0 n0 _ s₁.heap _
            rw [e0]
            exact ⟨by rw [hz1], N0, rfl⟩
          · refine Gl.st (fun _ k => XS.icmpYes X0.here hx rfl (pc0 := 44) (pc' := 51) rfl (hb hby d26_44) rfl (feq (ue3 : ¬ ((S 3) = x))).2 (by decide) (by decide) k) ?_
            show Gl p e below P (s₁.setTop (mkF m 51 #[.val (.ref a1), .val (.int (4 : Int32)), .val (.int x)] []))
            refine Gl.st (fun _ k => XS.iconst X0.here hx rfl (hb hby d26_51) k) ?_
            show Gl p e below P (s₁.setTop (mkF m 52 #[.val (.ref a1), .val (.int (4 : Int32)), .val (.int x)] [(.int (0 : Int32))]))
            have hz0 : z = (0 : Int32) := by
              rcases hz with ⟨q, -⟩ | ⟨-, q⟩
              · obtain ⟨j, -, b2, b3⟩ := (own_in_iff hc).mp q
                have hjs : j = 0 ∨ j = 1 ∨ j = 2 ∨ j = 3 := by omega
                rcases hjs with rfl | rfl | rfl | rfl
                · exact absurd b3 ue0
                · exact absurd b3 ue1
                · exact absurd b3 ue2
                · exact absurd b3 ue3
              · exact q
            obtain ⟨fs, hr, hrun, hended, hW, hsame⟩ := X0.leave (v := some (.int (0 : Int32))) (fun h => by rw [Bd.returns] at h; cases h)
            refine ⟨_, _, retN X0 hx (t := .boolean) Bd.returns (by simp) (hb hby d26_52) hr, hrun, hended, hPost _ _ ⟨_, _, rfl, ?_, ⟨_, rfl⟩, hW, hsame.mono (by decide) (by decide)⟩⟩
            show Q26 Z a1 k1 S 4 x z h0 n0 _ s₁.heap _
            rw [e0]
            exact ⟨by rw [hz0], N0, rfl⟩
theorem pn_27 : plainName "com/example/vendace/vendace/service/SortedArraysIntersectPinLaw" = true := by first | (simp [plainName, overriddenIn]; done) | decide +kernel
theorem ef_27 (m : MethodId) (x0 : Addr) (x1 : Addr) (x2 : Int32) (x3 : Int32) (x4 : Int32) : entryFrame m #[(.ref x0), (.ref x1), (.int x2), (.int x3), (.int x4)] 5 = mkF m 0 #[.val (.ref x0), .val (.ref x1), .val (.int x2), .val (.int x3), .val (.int x4)] [] := by first | (simp [entryFrame, mkF, argsToLocals, Value.category]; done) | rfl
def Q27 (Z : State) (a1 : Addr) (k1 : ClassId) (A : Nat → Int32) (a2 : Addr) (k2 : ClassId) (B : Nat → Int32) (cc : Nat) (i : Nat) (sn : Int32) (h0 : Heap) (n0 : Nat) (v : Option Value) (h : Heap) (L : List Loc) : Prop := v = some (.int (1 : Int32)) ∧ Fr n0 L ∧ h = h0
set_option maxRecDepth 65536 in
set_option maxHeartbeats 40000000 in
theorem rm27 (l : Launch) (Z : State) (a0 : Array Value) (hw : ∀ d ∈ tables_1, d.before a0 Z = true) (ws : List Jvm.Cond) (a1 : Addr) (k1 : ClassId) (A : Nat → Int32) (a2 : Addr) (k2 : ClassId) (B : Nat → Int32) (cc : Nat) (i : Nat) (sn : Int32) (h0 : Heap) (n0 : Nat) (Z0 : n0 ≤ h0.size) (V1 : Arv Z h0 a1 k1 .int (4 : Int32) (own_v4 A) (.int (0 : Int32))) (V2 : Arv Z h0 a2 k2 .int (4 : Int32) (own_v4 B) (.int (0 : Int32))) (hc : cc ≤ 4) (hi : i < 4) (hA : i < cc → A i = B i) (hB : ¬ i < cc → A i = sn) :
    MetFree l (⟨"com/example/vendace/vendace/service/SortedArraysIntersectPinLaw", "slot", "([I[IIII)Z"⟩ : MethodName) (head1 (Jvm.Cond.code (⟨"com/example/vendace/vendace/service/SortedArraysIntersectPinLaw", "slot", "([I[IIII)Z"⟩ : MethodName) method_3_code 5 (some .boolean) :: ws) ({ frames := 0, cells := 0, slots := 0, locals := 0 } : Room)) (fun a U => a = #[(.ref a1), (.ref a2), (.int (Int32.ofNat cc)), (.int (Int32.ofNat i)), (.int sn)] ∧ Z.Warmed39 U.vm ∧ U.heap = h0) (fun _ _ _ _ _ => True) (fun _ U o U' => ∃ v L, o = .returned v ∧ Q27 Z a1 k1 A a2 k2 B cc i sn h0 n0 v U'.heap L ∧ FrameEnd U o U' L ({ frames := 0, cells := 0, slots := 0, locals := 0 } : Room).cells ({ frames := 0, cells := 0, slots := 0, locals := 0 } : Room).slots) := by
  refine MetFree.of_bodySF (plainFor_of_name pn_27) hisR ?_
  intro p e s m args below meth c s₁ Bd hml0 hP hK
  obtain ⟨rfl, hZ, hh⟩ := hP
  have hx := Bd.exec
  have hby := Bd.bytes
  have hml : c.maxLocals = 5 := hml0
  have hown : s.vm.findClass "com/example/vendace/vendace/service/SortedArraysIntersectPinLaw" = some m.cls := findClass_of_methodNamed Bd.named
  have hnm := (name_of_methodNamed Bd.named Bd.method).1
  have X0 : Stand p l e ({ frames := 0, cells := 0, slots := 0, locals := 0 } : Room) s m #[(.ref a1), (.ref a2), (.int (Int32.ofNat cc)), (.int (Int32.ofNat i)), (.int sn)] below meth c s₁ [] 0 0 := Stand.of_body Bd
  have e0 : s₁.heap = h0 := by rw [← hh, Bd.state]; rfl
  have N0 := Fr.nil n0
  refine Gl.gen fun P hPost => ?_
  refine Gl.st (fun _ k => castTop (ef_27 m a1 a2 (Int32.ofNat cc) (Int32.ofNat i) sn ) k) ?_
  show Gl p e below P (s₁.setTop (mkF m 0 #[.val (.ref a1), .val (.ref a2), .val (.int (Int32.ofNat cc)), .val (.int (Int32.ofNat i)), .val (.int sn)] []))
  refine Gl.st (fun _ k => XS.iloadN X0.here hx rfl (hb hby d27_0) rfl k) ?_
  show Gl p e below P (s₁.setTop (mkF m 1 #[.val (.ref a1), .val (.ref a2), .val (.int (Int32.ofNat cc)), .val (.int (Int32.ofNat i)), .val (.int sn)] [(.int (Int32.ofNat i))]))
  refine Gl.st (fun _ k => XS.iloadN X0.here hx rfl (hb hby d27_1) rfl k) ?_
  show Gl p e below P (s₁.setTop (mkF m 2 #[.val (.ref a1), .val (.ref a2), .val (.int (Int32.ofNat cc)), .val (.int (Int32.ofNat i)), .val (.int sn)] [(.int (Int32.ofNat cc)), (.int (Int32.ofNat i))]))
  by_cases hbd : i < cc
  · refine Gl.st (fun _ k => XS.icmpNo X0.here hx rfl (hb hby d27_2) rfl (tlt ((own_lt i cc (by omega) (by omega)).mpr hbd : (Int32.ofNat i) < (Int32.ofNat cc))).2.1 k) ?_
    show Gl p e below P (s₁.setTop (mkF m 5 #[.val (.ref a1), .val (.ref a2), .val (.int (Int32.ofNat cc)), .val (.int (Int32.ofNat i)), .val (.int sn)] []))
    refine Gl.st (fun _ k => XS.aloadN X0.here hx rfl (hb hby d27_5) rfl rfl k) ?_
    show Gl p e below P (s₁.setTop (mkF m 6 #[.val (.ref a1), .val (.ref a2), .val (.int (Int32.ofNat cc)), .val (.int (Int32.ofNat i)), .val (.int sn)] [(.ref a1)]))
    refine Gl.st (fun _ k => XS.iloadN X0.here hx rfl (hb hby d27_6) rfl k) ?_
    show Gl p e below P (s₁.setTop (mkF m 7 #[.val (.ref a1), .val (.ref a2), .val (.int (Int32.ofNat cc)), .val (.int (Int32.ofNat i)), .val (.int sn)] [(.int (Int32.ofNat i)), (.ref a1)]))
    obtain ⟨c1, Ar1, q1, S1, M1, H1, U1⟩ := id V1
    have hin1 : ¬ ((Int32.ofNat i) < 0 ∨ c1.slots.size ≤ ((Int32.ofNat i)).toNatClampNeg) := inb_of S1 ⟨(own_neg i (by omega)), (own_lt4 i hi)⟩
    have hat1 : c1.slots[((Int32.ofNat i)).toNatClampNeg]? = some (.int (A i)) := H1.at hin1 (by rw [own_nn i (by omega)]; exact own_get4 A i hi)
    refine Gl.st (X0.iaload hx (j := (Int32.ofNat i)) (v := (.int (A i))) (by rw [e0]; exact Ar1.1) (State.isArrayOf_alike hZ.alike Ar1.2.1) Ar1.2.2 hin1 hat1 (g := (mkF m 7 #[.val (.ref a1), .val (.ref a2), .val (.int (Int32.ofNat cc)), .val (.int (Int32.ofNat i)), .val (.int sn)] [(.int (Int32.ofNat i)), (.ref a1)])) rfl rfl (hb hby d27_7)) ?_
    show Gl p e below P (s₁.setTop (mkF m 8 #[.val (.ref a1), .val (.ref a2), .val (.int (Int32.ofNat cc)), .val (.int (Int32.ofNat i)), .val (.int sn)] [(.int (A i))]))
    refine Gl.st (fun _ k => XS.aloadN X0.here hx rfl (hb hby d27_8) rfl rfl k) ?_
    show Gl p e below P (s₁.setTop (mkF m 9 #[.val (.ref a1), .val (.ref a2), .val (.int (Int32.ofNat cc)), .val (.int (Int32.ofNat i)), .val (.int sn)] [(.ref a2), (.int (A i))]))
    refine Gl.st (fun _ k => XS.iloadN X0.here hx rfl (hb hby d27_9) rfl k) ?_
    show Gl p e below P (s₁.setTop (mkF m 10 #[.val (.ref a1), .val (.ref a2), .val (.int (Int32.ofNat cc)), .val (.int (Int32.ofNat i)), .val (.int sn)] [(.int (Int32.ofNat i)), (.ref a2), (.int (A i))]))
    obtain ⟨c2, Ar2, q2, S2, M2, H2, U2⟩ := id V2
    have hin2 : ¬ ((Int32.ofNat i) < 0 ∨ c2.slots.size ≤ ((Int32.ofNat i)).toNatClampNeg) := inb_of S2 ⟨(own_neg i (by omega)), (own_lt4 i hi)⟩
    have hat2 : c2.slots[((Int32.ofNat i)).toNatClampNeg]? = some (.int (B i)) := H2.at hin2 (by rw [own_nn i (by omega)]; exact own_get4 B i hi)
    refine Gl.st (X0.iaload hx (j := (Int32.ofNat i)) (v := (.int (B i))) (by rw [e0]; exact Ar2.1) (State.isArrayOf_alike hZ.alike Ar2.2.1) Ar2.2.2 hin2 hat2 (g := (mkF m 10 #[.val (.ref a1), .val (.ref a2), .val (.int (Int32.ofNat cc)), .val (.int (Int32.ofNat i)), .val (.int sn)] [(.int (Int32.ofNat i)), (.ref a2), (.int (A i))])) rfl rfl (hb hby d27_10)) ?_
    show Gl p e below P (s₁.setTop (mkF m 11 #[.val (.ref a1), .val (.ref a2), .val (.int (Int32.ofNat cc)), .val (.int (Int32.ofNat i)), .val (.int sn)] [(.int (B i)), (.int (A i))]))
    refine Gl.st (fun _ k => XS.icmpNo X0.here hx rfl (hb hby d27_11) rfl (teq (hA hbd : (A i) = (B i))).2 k) ?_
    show Gl p e below P (s₁.setTop (mkF m 14 #[.val (.ref a1), .val (.ref a2), .val (.int (Int32.ofNat cc)), .val (.int (Int32.ofNat i)), .val (.int sn)] []))
    refine Gl.st (fun _ k => XS.iconst X0.here hx rfl (hb hby d27_14) k) ?_
    show Gl p e below P (s₁.setTop (mkF m 15 #[.val (.ref a1), .val (.ref a2), .val (.int (Int32.ofNat cc)), .val (.int (Int32.ofNat i)), .val (.int sn)] [(.int (1 : Int32))]))
    refine Gl.st (fun _ k => XS.goto X0.here hx rfl (pc0 := 15) (pc' := 35) rfl (hb hby d27_15) (by decide) (by decide) k) ?_
    show Gl p e below P (s₁.setTop (mkF m 35 #[.val (.ref a1), .val (.ref a2), .val (.int (Int32.ofNat cc)), .val (.int (Int32.ofNat i)), .val (.int sn)] [(.int (1 : Int32))]))
    obtain ⟨fs, hr, hrun, hended, hW, hsame⟩ := X0.leave (v := some (.int (1 : Int32))) (fun h => by rw [Bd.returns] at h; cases h)
    refine ⟨_, _, retN X0 hx (t := .boolean) Bd.returns (by simp) (hb hby d27_35) hr, hrun, hended, hPost _ _ ⟨_, _, rfl, ?_, ⟨_, rfl⟩, hW, hsame.mono (by decide) (by decide)⟩⟩
    show Q27 Z a1 k1 A a2 k2 B cc i sn h0 n0 _ s₁.heap _
    rw [e0]
    exact ⟨rfl, N0, rfl⟩
  · refine Gl.st (fun _ k => XS.icmpYes X0.here hx rfl (pc0 := 2) (pc' := 22) rfl (hb hby d27_2) rfl (flt (fun q => hbd ((own_lt i cc (by omega) (by omega)).mp q) : ¬ ((Int32.ofNat i) < (Int32.ofNat cc)))).2.1 (by decide) (by decide) k) ?_
    show Gl p e below P (s₁.setTop (mkF m 22 #[.val (.ref a1), .val (.ref a2), .val (.int (Int32.ofNat cc)), .val (.int (Int32.ofNat i)), .val (.int sn)] []))
    refine Gl.st (fun _ k => XS.aloadN X0.here hx rfl (hb hby d27_22) rfl rfl k) ?_
    show Gl p e below P (s₁.setTop (mkF m 23 #[.val (.ref a1), .val (.ref a2), .val (.int (Int32.ofNat cc)), .val (.int (Int32.ofNat i)), .val (.int sn)] [(.ref a1)]))
    refine Gl.st (fun _ k => XS.iloadN X0.here hx rfl (hb hby d27_23) rfl k) ?_
    show Gl p e below P (s₁.setTop (mkF m 24 #[.val (.ref a1), .val (.ref a2), .val (.int (Int32.ofNat cc)), .val (.int (Int32.ofNat i)), .val (.int sn)] [(.int (Int32.ofNat i)), (.ref a1)]))
    obtain ⟨c3, Ar3, q3, S3, M3, H3, U3⟩ := id V1
    have hin3 : ¬ ((Int32.ofNat i) < 0 ∨ c3.slots.size ≤ ((Int32.ofNat i)).toNatClampNeg) := inb_of S3 ⟨(own_neg i (by omega)), (own_lt4 i hi)⟩
    have hat3 : c3.slots[((Int32.ofNat i)).toNatClampNeg]? = some (.int (A i)) := H3.at hin3 (by rw [own_nn i (by omega)]; exact own_get4 A i hi)
    refine Gl.st (X0.iaload hx (j := (Int32.ofNat i)) (v := (.int (A i))) (by rw [e0]; exact Ar3.1) (State.isArrayOf_alike hZ.alike Ar3.2.1) Ar3.2.2 hin3 hat3 (g := (mkF m 24 #[.val (.ref a1), .val (.ref a2), .val (.int (Int32.ofNat cc)), .val (.int (Int32.ofNat i)), .val (.int sn)] [(.int (Int32.ofNat i)), (.ref a1)])) rfl rfl (hb hby d27_24)) ?_
    show Gl p e below P (s₁.setTop (mkF m 25 #[.val (.ref a1), .val (.ref a2), .val (.int (Int32.ofNat cc)), .val (.int (Int32.ofNat i)), .val (.int sn)] [(.int (A i))]))
    refine Gl.st (fun _ k => XS.iload X0.here hx rfl (hb hby d27_25) rfl k) ?_
    show Gl p e below P (s₁.setTop (mkF m 27 #[.val (.ref a1), .val (.ref a2), .val (.int (Int32.ofNat cc)), .val (.int (Int32.ofNat i)), .val (.int sn)] [(.int sn), (.int (A i))]))
    refine Gl.st (fun _ k => XS.icmpNo X0.here hx rfl (hb hby d27_27) rfl (teq (hB hbd : (A i) = sn)).2 k) ?_
    show Gl p e below P (s₁.setTop (mkF m 30 #[.val (.ref a1), .val (.ref a2), .val (.int (Int32.ofNat cc)), .val (.int (Int32.ofNat i)), .val (.int sn)] []))
    refine Gl.st (fun _ k => XS.iconst X0.here hx rfl (hb hby d27_30) k) ?_
    show Gl p e below P (s₁.setTop (mkF m 31 #[.val (.ref a1), .val (.ref a2), .val (.int (Int32.ofNat cc)), .val (.int (Int32.ofNat i)), .val (.int sn)] [(.int (1 : Int32))]))
    refine Gl.st (fun _ k => XS.goto X0.here hx rfl (pc0 := 31) (pc' := 35) rfl (hb hby d27_31) (by decide) (by decide) k) ?_
    show Gl p e below P (s₁.setTop (mkF m 35 #[.val (.ref a1), .val (.ref a2), .val (.int (Int32.ofNat cc)), .val (.int (Int32.ofNat i)), .val (.int sn)] [(.int (1 : Int32))]))
    obtain ⟨fs, hr, hrun, hended, hW, hsame⟩ := X0.leave (v := some (.int (1 : Int32))) (fun h => by rw [Bd.returns] at h; cases h)
    refine ⟨_, _, retN X0 hx (t := .boolean) Bd.returns (by simp) (hb hby d27_35) hr, hrun, hended, hPost _ _ ⟨_, _, rfl, ?_, ⟨_, rfl⟩, hW, hsame.mono (by decide) (by decide)⟩⟩
    show Q27 Z a1 k1 A a2 k2 B cc i sn h0 n0 _ s₁.heap _
    rw [e0]
    exact ⟨rfl, N0, rfl⟩
theorem pn_0 : plainName "com/example/vendace/vendace/service/SortedArraysIntersectPinLaw" = true := by first | (simp [plainName, overriddenIn]; done) | decide +kernel
theorem ef_0 (m : MethodId) (x0 : Int32) (x1 : Int32) (x2 : Int32) (x3 : Int32) : entryFrame m #[(.int x0), (.int x1), (.int x2), (.int x3)] maxLocals = mkF m 0 #[.val (.int x0), .val (.int x1), .val (.int x2), .val (.int x3), .unset, .unset, .unset, .unset, .unset, .unset, .unset, .unset, .unset, .unset] [] := by first | (simp [entryFrame, mkF, argsToLocals, Value.category, maxLocals]; done) | rfl
def Q0 (Z : State) (p1 : Int32) (p2 : Int32) (p3 : Int32) (p4 : Int32) (h0 : Heap) (n0 : Nat) (v : Option Value) (h : Heap) (L : List Loc) : Prop := v = some (.int 1) ∧ Fr n0 L
set_option maxRecDepth 65536 in
set_option maxHeartbeats 40000000 in
theorem rm0 (l : Launch) (Z : State) (a0 : Array Value) (hw : ∀ d ∈ tables_1, d.before a0 Z = true) (ws : List Jvm.Cond) (p1 : Int32) (p2 : Int32) (p3 : Int32) (p4 : Int32) (h0 : Heap) (n0 : Nat) (Z0 : n0 ≤ h0.size)  :
    MetFree l x (head1 (Jvm.Cond.code x code maxLocals ret :: ws) room_1) (fun a U => a = #[(.int p1), (.int p2), (.int p3), (.int p4)] ∧ Z.Warmed39 U.vm ∧ U.heap = h0) (fun _ _ _ _ _ => True) (fun _ U o U' => ∃ v L, o = .returned v ∧ Q0 Z p1 p2 p3 p4 h0 n0 v U'.heap L ∧ FrameEnd U o U' L 16 128) := by
  refine MetFree.of_bodySF (plainFor_of_name pn_0) hisR ?_
  intro p e s m args below meth c s₁ Bd hml0 hP hK
  obtain ⟨rfl, hZ, hh⟩ := hP
  have hx := Bd.exec
  have hby := Bd.bytes
  have hml : c.maxLocals = 14 := hml0
  have hown : s.vm.findClass "com/example/vendace/vendace/service/SortedArraysIntersectPinLaw" = some m.cls := findClass_of_methodNamed Bd.named
  have hnm := (name_of_methodNamed Bd.named Bd.method).1
  have X0 : Stand p l e room_1 s m #[(.int p1), (.int p2), (.int p3), (.int p4)] below meth c s₁ [] 0 0 := Stand.of_body Bd
  have e0 : s₁.heap = h0 := by rw [← hh, Bd.state]; rfl
  have N0 := Fr.nil n0
  refine Gl.gen fun P hPost => ?_
  refine Gl.st (fun _ k => castTop (ef_0 m p1 p2 p3 p4 ) k) ?_
  show Gl p e below P (s₁.setTop (mkF m 0 #[.val (.int p1), .val (.int p2), .val (.int p3), .val (.int p4), .unset, .unset, .unset, .unset, .unset, .unset, .unset, .unset, .unset, .unset] []))
  refine Gl.st (fun _ k => XS.iloadN X0.here hx rfl (hb hby at_0) rfl k) ?_
  show Gl p e below P (s₁.setTop (mkF m 1 #[.val (.int p1), .val (.int p2), .val (.int p3), .val (.int p4), .unset, .unset, .unset, .unset, .unset, .unset, .unset, .unset, .unset, .unset] [(.int p1)]))
  refine Gl.st (X0.ldcInt hx hown (mvT hZ (hw _ (List.mem_of_getElem? (i := 0) rfl))) (g := (mkF m 1 #[.val (.int p1), .val (.int p2), .val (.int p3), .val (.int p4), .unset, .unset, .unset, .unset, .unset, .unset, .unset, .unset, .unset, .unset] [(.int p1)])) rfl (hb hby at_1)) ?_
  show Gl p e below P (s₁.setTop (mkF m 3 #[.val (.int p1), .val (.int p2), .val (.int p3), .val (.int p4), .unset, .unset, .unset, .unset, .unset, .unset, .unset, .unset, .unset, .unset] [(.int (2147483607 : Int32)), (.int p1)]))
  obtain ⟨b, hbd⟩ : ∃ b : Int32, ((2147483607 : Int32) < p1 ∧ b = (2147483607 : Int32)) ∨ (¬ (2147483607 : Int32) < p1 ∧ b = p1) := by by_cases q : (2147483607 : Int32) < p1; exact ⟨_, Or.inl ⟨q, rfl⟩⟩; exact ⟨_, Or.inr ⟨q, rfl⟩⟩
  obtain ⟨_, _, ⟨T1, L1, k1, n1⟩, -, X1, ⟨Lc1, hQ1, l1, y1, z1⟩, st1⟩ := Jvm.LawKit.callS X0 hx (y := (⟨"java/lang/Math", "min", "(II)I"⟩ : MethodName)) hown (mvT hZ (hw _ (List.mem_of_getElem? (i := 1) rfl))) (mvT hZ (hw _ (List.mem_of_getElem? (i := 2) rfl))) (mvT hZ (hw _ (List.mem_of_getElem? (i := 3) rfl))) (mvT hZ (hw _ (List.mem_of_getElem? (i := 4) rfl))) (by decide) (backOf (W := 0) (rm20 l Z a0 hw [] p1 (2147483607 : Int32) b h0 n0 Z0 hbd) hZ (hw _ (List.mem_of_getElem? (i := 4) rfl)) (hw _ (List.mem_of_getElem? (i := 3) rfl)) (by decide) (by decide)) (g := (mkF m 3 #[.val (.int p1), .val (.int p2), .val (.int p3), .val (.int p4), .unset, .unset, .unset, .unset, .unset, .unset, .unset, .unset, .unset, .unset] [(.int (2147483607 : Int32)), (.int p1)])) rfl (by rw [hml]; rfl) (argsL := [(.int p1), (.int (2147483607 : Int32))]) (rest := []) (lenOf pd_3 rfl) rfl (by show 2 * 0 + _ ≤ _; exact Nat.le_of_eq rfl) (hb hby at_3) (fun _ _ => ⟨rfl, e0, (by decide : 0 + 0 ≤ _), (by decide : 0 + 0 ≤ _)⟩)
  dsimp only [Pt.U, Pt.locs, Pt.cells, Pt.slots] at X1 l1 y1 z1 st1 hQ1
  subst l1 y1 z1
  obtain ⟨rfl, N1q, e1⟩ := hQ1
  have N1 := Fr.app N0 N1q
  refine Gl.st st1 ?_
  show Gl p e below P (T1.setTop (mkF m 6 #[.val (.int p1), .val (.int p2), .val (.int p3), .val (.int p4), .unset, .unset, .unset, .unset, .unset, .unset, .unset, .unset, .unset, .unset] [(.int b)]))
  refine Gl.st (fun _ k => XS.istore X1.here hx rfl (hb hby at_6) rfl (l' := #[.val (.int p1), .val (.int p2), .val (.int p3), .val (.int p4), .val (.int b), .unset, .unset, .unset, .unset, .unset, .unset, .unset, .unset, .unset]) rfl k) ?_
  show Gl p e below P (T1.setTop (mkF m 8 #[.val (.int p1), .val (.int p2), .val (.int p3), .val (.int p4), .val (.int b), .unset, .unset, .unset, .unset, .unset, .unset, .unset, .unset, .unset] []))
  refine Gl.st (fun _ k => XS.iconst X1.here hx rfl (hb hby at_8) k) ?_
  show Gl p e below P (T1.setTop (mkF m 9 #[.val (.int p1), .val (.int p2), .val (.int p3), .val (.int p4), .val (.int b), .unset, .unset, .unset, .unset, .unset, .unset, .unset, .unset, .unset] [(.int (4 : Int32))]))
  obtain ⟨T2, h2, k2, X2, e2, E2, A2, st2⟩ := newP X1 hx hZ (hw _ (List.mem_of_getElem? (i := 5) rfl)) e1 (g := (mkF m 9 #[.val (.int p1), .val (.int p2), .val (.int p3), .val (.int p4), .val (.int b), .unset, .unset, .unset, .unset, .unset, .unset, .unset, .unset, .unset] [(.int (4 : Int32))])) rfl (hb hby at_9) rfl (by decide) (cap := 4) (by decide) (by decide) (by decide) (by decide)
  obtain ⟨b2, g2⟩ : ∃ z, z = h0.size := ⟨_, rfl⟩
  rw [← g2] at A2 st2
  refine Gl.st st2 ?_
  have g_b2 : n0 ≤ b2 := Nat.le_trans Z0 (Nat.le_of_eq g2.symm)
  have Z0_v2 : n0 ≤ h2.size := Nat.le_trans Z0 E2.1
  have V_b2 : Arv Z h2 b2 k2 .int (4 : Int32) [(.int (0 : Int32)), (.int (0 : Int32)), (.int (0 : Int32)), (.int (0 : Int32))] (.int (0 : Int32)) := (Arv.new A2 (by decide)).pad (pad_rep [] (.int (0 : Int32)) 4)
  show Gl p e below P (T2.setTop (mkF m 11 #[.val (.int p1), .val (.int p2), .val (.int p3), .val (.int p4), .val (.int b), .unset, .unset, .unset, .unset, .unset, .unset, .unset, .unset, .unset] [(.ref b2)]))
  refine Gl.st (fun _ k => XS.astore X2.here hx rfl (hb hby at_11) rfl rfl (l' := #[.val (.int p1), .val (.int p2), .val (.int p3), .val (.int p4), .val (.int b), .val (.ref b2), .unset, .unset, .unset, .unset, .unset, .unset, .unset, .unset]) rfl k) ?_
  show Gl p e below P (T2.setTop (mkF m 13 #[.val (.int p1), .val (.int p2), .val (.int p3), .val (.int p4), .val (.int b), .val (.ref b2), .unset, .unset, .unset, .unset, .unset, .unset, .unset, .unset] []))
  refine Gl.st (fun _ k => XS.aload X2.here hx rfl (hb hby at_13) rfl rfl k) ?_
  show Gl p e below P (T2.setTop (mkF m 15 #[.val (.int p1), .val (.int p2), .val (.int p3), .val (.int p4), .val (.int b), .val (.ref b2), .unset, .unset, .unset, .unset, .unset, .unset, .unset, .unset] [(.ref b2)]))
  refine Gl.st (fun _ k => XS.iconst X2.here hx rfl (hb hby at_15) k) ?_
  show Gl p e below P (T2.setTop (mkF m 16 #[.val (.int p1), .val (.int p2), .val (.int p3), .val (.int p4), .val (.int b), .val (.ref b2), .unset, .unset, .unset, .unset, .unset, .unset, .unset, .unset] [(.int (0 : Int32)), (.ref b2)]))
  refine Gl.st (fun _ k => XS.iload X2.here hx rfl (hb hby at_16) rfl k) ?_
  show Gl p e below P (T2.setTop (mkF m 18 #[.val (.int p1), .val (.int p2), .val (.int p3), .val (.int p4), .val (.int b), .val (.ref b2), .unset, .unset, .unset, .unset, .unset, .unset, .unset, .unset] [(.int b), (.int (0 : Int32)), (.ref b2)]))
  refine Gl.st (fun _ k => XS.iloadN X2.here hx rfl (hb hby at_18) rfl k) ?_
  show Gl p e below P (T2.setTop (mkF m 19 #[.val (.int p1), .val (.int p2), .val (.int p3), .val (.int p4), .val (.int b), .val (.ref b2), .unset, .unset, .unset, .unset, .unset, .unset, .unset, .unset] [(.int p2), (.int b), (.int (0 : Int32)), (.ref b2)]))
  refine Gl.st (fun _ k => XS.iconst X2.here hx rfl (hb hby at_19) k) ?_
  show Gl p e below P (T2.setTop (mkF m 20 #[.val (.int p1), .val (.int p2), .val (.int p3), .val (.int p4), .val (.int b), .val (.ref b2), .unset, .unset, .unset, .unset, .unset, .unset, .unset, .unset] [(.int (3 : Int32)), (.int p2), (.int b), (.int (0 : Int32)), (.ref b2)]))
  refine Gl.st (fun _ k => XS.iand X2.here hx rfl (hb hby at_20) rfl k) ?_
  show Gl p e below P (T2.setTop (mkF m 21 #[.val (.int p1), .val (.int p2), .val (.int p3), .val (.int p4), .val (.int b), .val (.ref b2), .unset, .unset, .unset, .unset, .unset, .unset, .unset, .unset] [(.int (p2 &&& (3 : Int32))), (.int b), (.int (0 : Int32)), (.ref b2)]))
  refine Gl.st (fun _ k => XS.iadd X2.here hx rfl (hb hby at_21) rfl k) ?_
  show Gl p e below P (T2.setTop (mkF m 22 #[.val (.int p1), .val (.int p2), .val (.int p3), .val (.int p4), .val (.int b), .val (.ref b2), .unset, .unset, .unset, .unset, .unset, .unset, .unset, .unset] [(.int (b + (p2 &&& (3 : Int32)))), (.int (0 : Int32)), (.ref b2)]))
  obtain ⟨r0, hr0⟩ : ∃ z : Int32, z = (b + (p2 &&& (3 : Int32))) := ⟨_, rfl⟩
  rw [← hr0]
  show Gl p e below P (T2.setTop (mkF m 22 #[.val (.int p1), .val (.int p2), .val (.int p3), .val (.int p4), .val (.int b), .val (.ref b2), .unset, .unset, .unset, .unset, .unset, .unset, .unset, .unset] [(.int r0), (.int (0 : Int32)), (.ref b2)]))
  obtain ⟨c3, Ar3, q3, S3, M3, H3, U3⟩ := id V_b2
  obtain ⟨T4, h4, X4, e4, W4, st4⟩ := stI X2 hx hZ e2 Ar3 (j := (0 : Int32)) (inb_of S3 ⟨(by decide : ¬ ((0 : Int32) < (0 : Int32))), (by decide : (0 : Int32) < (4 : Int32))⟩) (g := (mkF m 22 #[.val (.int p1), .val (.int p2), .val (.int p3), .val (.int p4), .val (.int b), .val (.ref b2), .unset, .unset, .unset, .unset, .unset, .unset, .unset, .unset] [(.int r0), (.int (0 : Int32)), (.ref b2)])) rfl rfl (hb hby at_22)
  refine Gl.st st4 ?_
  have Z0_v4 : n0 ≤ h4.size := Nat.le_trans Z0_v2 (Keep.of_wr W4).1
  have V_b2_4 : Arv Z h4 b2 k2 .int (4 : Int32) [(.int r0), (.int (0 : Int32)), (.int (0 : Int32)), (.int (0 : Int32))] (.int (0 : Int32)) := Arv.set Ar3 q3 S3 M3 H3 U3 rfl W4 0 rfl (Nat.le_of_ble_eq_true rfl)
  have N4 := Fr.snoc X4 N1 g_b2
  show Gl p e below P (T4.setTop (mkF m 23 #[.val (.int p1), .val (.int p2), .val (.int p3), .val (.int p4), .val (.int b), .val (.ref b2), .unset, .unset, .unset, .unset, .unset, .unset, .unset, .unset] []))
  refine Gl.st (fun _ k => XS.aload X4.here hx rfl (hb hby at_23) rfl rfl k) ?_
  show Gl p e below P (T4.setTop (mkF m 25 #[.val (.int p1), .val (.int p2), .val (.int p3), .val (.int p4), .val (.int b), .val (.ref b2), .unset, .unset, .unset, .unset, .unset, .unset, .unset, .unset] [(.ref b2)]))
  refine Gl.st (fun _ k => XS.iconst X4.here hx rfl (hb hby at_25) k) ?_
  show Gl p e below P (T4.setTop (mkF m 26 #[.val (.int p1), .val (.int p2), .val (.int p3), .val (.int p4), .val (.int b), .val (.ref b2), .unset, .unset, .unset, .unset, .unset, .unset, .unset, .unset] [(.int (1 : Int32)), (.ref b2)]))
  refine Gl.st (fun _ k => XS.aload X4.here hx rfl (hb hby at_26) rfl rfl k) ?_
  show Gl p e below P (T4.setTop (mkF m 28 #[.val (.int p1), .val (.int p2), .val (.int p3), .val (.int p4), .val (.int b), .val (.ref b2), .unset, .unset, .unset, .unset, .unset, .unset, .unset, .unset] [(.ref b2), (.int (1 : Int32)), (.ref b2)]))
  refine Gl.st (fun _ k => XS.iconst X4.here hx rfl (hb hby at_28) k) ?_
  show Gl p e below P (T4.setTop (mkF m 29 #[.val (.int p1), .val (.int p2), .val (.int p3), .val (.int p4), .val (.int b), .val (.ref b2), .unset, .unset, .unset, .unset, .unset, .unset, .unset, .unset] [(.int (0 : Int32)), (.ref b2), (.int (1 : Int32)), (.ref b2)]))
  obtain ⟨c5, Ar5, q5, S5, M5, H5, U5⟩ := id V_b2_4
  have hin5 : ¬ ((0 : Int32) < 0 ∨ c5.slots.size ≤ ((0 : Int32)).toNatClampNeg) := (inb_of S5 ⟨(by decide : ¬ ((0 : Int32) < (0 : Int32))), (by decide : (0 : Int32) < (4 : Int32))⟩)
  have hat5 : c5.slots[((0 : Int32)).toNatClampNeg]? = some (.int r0) := H5.at hin5 rfl
  refine Gl.st (X4.iaload hx (j := (0 : Int32)) (v := (.int r0)) (by rw [e4]; exact Ar5.1) (State.isArrayOf_alike hZ.alike Ar5.2.1) Ar5.2.2 hin5 hat5 (g := (mkF m 29 #[.val (.int p1), .val (.int p2), .val (.int p3), .val (.int p4), .val (.int b), .val (.ref b2), .unset, .unset, .unset, .unset, .unset, .unset, .unset, .unset] [(.int (0 : Int32)), (.ref b2), (.int (1 : Int32)), (.ref b2)])) rfl rfl (hb hby at_29)) ?_
  show Gl p e below P (T4.setTop (mkF m 30 #[.val (.int p1), .val (.int p2), .val (.int p3), .val (.int p4), .val (.int b), .val (.ref b2), .unset, .unset, .unset, .unset, .unset, .unset, .unset, .unset] [(.int r0), (.int (1 : Int32)), (.ref b2)]))
  refine Gl.st (fun _ k => XS.iconst X4.here hx rfl (hb hby at_30) k) ?_
  show Gl p e below P (T4.setTop (mkF m 31 #[.val (.int p1), .val (.int p2), .val (.int p3), .val (.int p4), .val (.int b), .val (.ref b2), .unset, .unset, .unset, .unset, .unset, .unset, .unset, .unset] [(.int (1 : Int32)), (.int r0), (.int (1 : Int32)), (.ref b2)]))
  refine Gl.st (fun _ k => XS.iadd X4.here hx rfl (hb hby at_31) rfl k) ?_
  show Gl p e below P (T4.setTop (mkF m 32 #[.val (.int p1), .val (.int p2), .val (.int p3), .val (.int p4), .val (.int b), .val (.ref b2), .unset, .unset, .unset, .unset, .unset, .unset, .unset, .unset] [(.int (r0 + (1 : Int32))), (.int (1 : Int32)), (.ref b2)]))
  refine Gl.st (fun _ k => XS.iloadN X4.here hx rfl (hb hby at_32) rfl k) ?_
  show Gl p e below P (T4.setTop (mkF m 33 #[.val (.int p1), .val (.int p2), .val (.int p3), .val (.int p4), .val (.int b), .val (.ref b2), .unset, .unset, .unset, .unset, .unset, .unset, .unset, .unset] [(.int p2), (.int (r0 + (1 : Int32))), (.int (1 : Int32)), (.ref b2)]))
  refine Gl.st (fun _ k => XS.iconst X4.here hx rfl (hb hby at_33) k) ?_
  show Gl p e below P (T4.setTop (mkF m 34 #[.val (.int p1), .val (.int p2), .val (.int p3), .val (.int p4), .val (.int b), .val (.ref b2), .unset, .unset, .unset, .unset, .unset, .unset, .unset, .unset] [(.int (2 : Int32)), (.int p2), (.int (r0 + (1 : Int32))), (.int (1 : Int32)), (.ref b2)]))
  refine Gl.st (fun _ k => XS.iushr X4.here hx rfl (hb hby at_34) rfl k) ?_
  show Gl p e below P (T4.setTop (mkF m 35 #[.val (.int p1), .val (.int p2), .val (.int p3), .val (.int p4), .val (.int b), .val (.ref b2), .unset, .unset, .unset, .unset, .unset, .unset, .unset, .unset] [(.int ((p2.toUInt32 >>> ((2 : Int32) &&& 31).toUInt32).toInt32)), (.int (r0 + (1 : Int32))), (.int (1 : Int32)), (.ref b2)]))
  refine Gl.st (fun _ k => XS.iconst X4.here hx rfl (hb hby at_35) k) ?_
  show Gl p e below P (T4.setTop (mkF m 36 #[.val (.int p1), .val (.int p2), .val (.int p3), .val (.int p4), .val (.int b), .val (.ref b2), .unset, .unset, .unset, .unset, .unset, .unset, .unset, .unset] [(.int (3 : Int32)), (.int ((p2.toUInt32 >>> ((2 : Int32) &&& 31).toUInt32).toInt32)), (.int (r0 + (1 : Int32))), (.int (1 : Int32)), (.ref b2)]))
  refine Gl.st (fun _ k => XS.iand X4.here hx rfl (hb hby at_36) rfl k) ?_
  show Gl p e below P (T4.setTop (mkF m 37 #[.val (.int p1), .val (.int p2), .val (.int p3), .val (.int p4), .val (.int b), .val (.ref b2), .unset, .unset, .unset, .unset, .unset, .unset, .unset, .unset] [(.int (((p2.toUInt32 >>> ((2 : Int32) &&& 31).toUInt32).toInt32) &&& (3 : Int32))), (.int (r0 + (1 : Int32))), (.int (1 : Int32)), (.ref b2)]))
  refine Gl.st (fun _ k => XS.iadd X4.here hx rfl (hb hby at_37) rfl k) ?_
  show Gl p e below P (T4.setTop (mkF m 38 #[.val (.int p1), .val (.int p2), .val (.int p3), .val (.int p4), .val (.int b), .val (.ref b2), .unset, .unset, .unset, .unset, .unset, .unset, .unset, .unset] [(.int ((r0 + (1 : Int32)) + (((p2.toUInt32 >>> ((2 : Int32) &&& 31).toUInt32).toInt32) &&& (3 : Int32)))), (.int (1 : Int32)), (.ref b2)]))
  obtain ⟨r1, hr1⟩ : ∃ z : Int32, z = ((r0 + (1 : Int32)) + (((p2.toUInt32 >>> ((2 : Int32) &&& 31).toUInt32).toInt32) &&& (3 : Int32))) := ⟨_, rfl⟩
  rw [← hr1]
  show Gl p e below P (T4.setTop (mkF m 38 #[.val (.int p1), .val (.int p2), .val (.int p3), .val (.int p4), .val (.int b), .val (.ref b2), .unset, .unset, .unset, .unset, .unset, .unset, .unset, .unset] [(.int r1), (.int (1 : Int32)), (.ref b2)]))
  obtain ⟨c6, Ar6, q6, S6, M6, H6, U6⟩ := id V_b2_4
  obtain ⟨T7, h7, X7, e7, W7, st7⟩ := stI X4 hx hZ e4 Ar6 (j := (1 : Int32)) (inb_of S6 ⟨(by decide : ¬ ((1 : Int32) < (0 : Int32))), (by decide : (1 : Int32) < (4 : Int32))⟩) (g := (mkF m 38 #[.val (.int p1), .val (.int p2), .val (.int p3), .val (.int p4), .val (.int b), .val (.ref b2), .unset, .unset, .unset, .unset, .unset, .unset, .unset, .unset] [(.int r1), (.int (1 : Int32)), (.ref b2)])) rfl rfl (hb hby at_38)
  refine Gl.st st7 ?_
  have Z0_v7 : n0 ≤ h7.size := Nat.le_trans Z0_v4 (Keep.of_wr W7).1
  have V_b2_7 : Arv Z h7 b2 k2 .int (4 : Int32) [(.int r0), (.int r1), (.int (0 : Int32)), (.int (0 : Int32))] (.int (0 : Int32)) := Arv.set Ar6 q6 S6 M6 H6 U6 rfl W7 1 rfl (Nat.le_of_ble_eq_true rfl)
  have N7 := Fr.snoc X7 N4 g_b2
  show Gl p e below P (T7.setTop (mkF m 39 #[.val (.int p1), .val (.int p2), .val (.int p3), .val (.int p4), .val (.int b), .val (.ref b2), .unset, .unset, .unset, .unset, .unset, .unset, .unset, .unset] []))
  refine Gl.st (fun _ k => XS.aload X7.here hx rfl (hb hby at_39) rfl rfl k) ?_
  show Gl p e below P (T7.setTop (mkF m 41 #[.val (.int p1), .val (.int p2), .val (.int p3), .val (.int p4), .val (.int b), .val (.ref b2), .unset, .unset, .unset, .unset, .unset, .unset, .unset, .unset] [(.ref b2)]))
  refine Gl.st (fun _ k => XS.iconst X7.here hx rfl (hb hby at_41) k) ?_
  show Gl p e below P (T7.setTop (mkF m 42 #[.val (.int p1), .val (.int p2), .val (.int p3), .val (.int p4), .val (.int b), .val (.ref b2), .unset, .unset, .unset, .unset, .unset, .unset, .unset, .unset] [(.int (2 : Int32)), (.ref b2)]))
  refine Gl.st (fun _ k => XS.aload X7.here hx rfl (hb hby at_42) rfl rfl k) ?_
  show Gl p e below P (T7.setTop (mkF m 44 #[.val (.int p1), .val (.int p2), .val (.int p3), .val (.int p4), .val (.int b), .val (.ref b2), .unset, .unset, .unset, .unset, .unset, .unset, .unset, .unset] [(.ref b2), (.int (2 : Int32)), (.ref b2)]))
  refine Gl.st (fun _ k => XS.iconst X7.here hx rfl (hb hby at_44) k) ?_
  show Gl p e below P (T7.setTop (mkF m 45 #[.val (.int p1), .val (.int p2), .val (.int p3), .val (.int p4), .val (.int b), .val (.ref b2), .unset, .unset, .unset, .unset, .unset, .unset, .unset, .unset] [(.int (1 : Int32)), (.ref b2), (.int (2 : Int32)), (.ref b2)]))
  obtain ⟨c8, Ar8, q8, S8, M8, H8, U8⟩ := id V_b2_7
  have hin8 : ¬ ((1 : Int32) < 0 ∨ c8.slots.size ≤ ((1 : Int32)).toNatClampNeg) := (inb_of S8 ⟨(by decide : ¬ ((1 : Int32) < (0 : Int32))), (by decide : (1 : Int32) < (4 : Int32))⟩)
  have hat8 : c8.slots[((1 : Int32)).toNatClampNeg]? = some (.int r1) := H8.at hin8 rfl
  refine Gl.st (X7.iaload hx (j := (1 : Int32)) (v := (.int r1)) (by rw [e7]; exact Ar8.1) (State.isArrayOf_alike hZ.alike Ar8.2.1) Ar8.2.2 hin8 hat8 (g := (mkF m 45 #[.val (.int p1), .val (.int p2), .val (.int p3), .val (.int p4), .val (.int b), .val (.ref b2), .unset, .unset, .unset, .unset, .unset, .unset, .unset, .unset] [(.int (1 : Int32)), (.ref b2), (.int (2 : Int32)), (.ref b2)])) rfl rfl (hb hby at_45)) ?_
  show Gl p e below P (T7.setTop (mkF m 46 #[.val (.int p1), .val (.int p2), .val (.int p3), .val (.int p4), .val (.int b), .val (.ref b2), .unset, .unset, .unset, .unset, .unset, .unset, .unset, .unset] [(.int r1), (.int (2 : Int32)), (.ref b2)]))
  refine Gl.st (fun _ k => XS.iconst X7.here hx rfl (hb hby at_46) k) ?_
  show Gl p e below P (T7.setTop (mkF m 47 #[.val (.int p1), .val (.int p2), .val (.int p3), .val (.int p4), .val (.int b), .val (.ref b2), .unset, .unset, .unset, .unset, .unset, .unset, .unset, .unset] [(.int (1 : Int32)), (.int r1), (.int (2 : Int32)), (.ref b2)]))
  refine Gl.st (fun _ k => XS.iadd X7.here hx rfl (hb hby at_47) rfl k) ?_
  show Gl p e below P (T7.setTop (mkF m 48 #[.val (.int p1), .val (.int p2), .val (.int p3), .val (.int p4), .val (.int b), .val (.ref b2), .unset, .unset, .unset, .unset, .unset, .unset, .unset, .unset] [(.int (r1 + (1 : Int32))), (.int (2 : Int32)), (.ref b2)]))
  refine Gl.st (fun _ k => XS.iloadN X7.here hx rfl (hb hby at_48) rfl k) ?_
  show Gl p e below P (T7.setTop (mkF m 49 #[.val (.int p1), .val (.int p2), .val (.int p3), .val (.int p4), .val (.int b), .val (.ref b2), .unset, .unset, .unset, .unset, .unset, .unset, .unset, .unset] [(.int p2), (.int (r1 + (1 : Int32))), (.int (2 : Int32)), (.ref b2)]))
  refine Gl.st (fun _ k => XS.iconst X7.here hx rfl (hb hby at_49) k) ?_
  show Gl p e below P (T7.setTop (mkF m 50 #[.val (.int p1), .val (.int p2), .val (.int p3), .val (.int p4), .val (.int b), .val (.ref b2), .unset, .unset, .unset, .unset, .unset, .unset, .unset, .unset] [(.int (4 : Int32)), (.int p2), (.int (r1 + (1 : Int32))), (.int (2 : Int32)), (.ref b2)]))
  refine Gl.st (fun _ k => XS.iushr X7.here hx rfl (hb hby at_50) rfl k) ?_
  show Gl p e below P (T7.setTop (mkF m 51 #[.val (.int p1), .val (.int p2), .val (.int p3), .val (.int p4), .val (.int b), .val (.ref b2), .unset, .unset, .unset, .unset, .unset, .unset, .unset, .unset] [(.int ((p2.toUInt32 >>> ((4 : Int32) &&& 31).toUInt32).toInt32)), (.int (r1 + (1 : Int32))), (.int (2 : Int32)), (.ref b2)]))
  refine Gl.st (fun _ k => XS.iconst X7.here hx rfl (hb hby at_51) k) ?_
  show Gl p e below P (T7.setTop (mkF m 52 #[.val (.int p1), .val (.int p2), .val (.int p3), .val (.int p4), .val (.int b), .val (.ref b2), .unset, .unset, .unset, .unset, .unset, .unset, .unset, .unset] [(.int (3 : Int32)), (.int ((p2.toUInt32 >>> ((4 : Int32) &&& 31).toUInt32).toInt32)), (.int (r1 + (1 : Int32))), (.int (2 : Int32)), (.ref b2)]))
  refine Gl.st (fun _ k => XS.iand X7.here hx rfl (hb hby at_52) rfl k) ?_
  show Gl p e below P (T7.setTop (mkF m 53 #[.val (.int p1), .val (.int p2), .val (.int p3), .val (.int p4), .val (.int b), .val (.ref b2), .unset, .unset, .unset, .unset, .unset, .unset, .unset, .unset] [(.int (((p2.toUInt32 >>> ((4 : Int32) &&& 31).toUInt32).toInt32) &&& (3 : Int32))), (.int (r1 + (1 : Int32))), (.int (2 : Int32)), (.ref b2)]))
  refine Gl.st (fun _ k => XS.iadd X7.here hx rfl (hb hby at_53) rfl k) ?_
  show Gl p e below P (T7.setTop (mkF m 54 #[.val (.int p1), .val (.int p2), .val (.int p3), .val (.int p4), .val (.int b), .val (.ref b2), .unset, .unset, .unset, .unset, .unset, .unset, .unset, .unset] [(.int ((r1 + (1 : Int32)) + (((p2.toUInt32 >>> ((4 : Int32) &&& 31).toUInt32).toInt32) &&& (3 : Int32)))), (.int (2 : Int32)), (.ref b2)]))
  obtain ⟨r2, hr2⟩ : ∃ z : Int32, z = ((r1 + (1 : Int32)) + (((p2.toUInt32 >>> ((4 : Int32) &&& 31).toUInt32).toInt32) &&& (3 : Int32))) := ⟨_, rfl⟩
  rw [← hr2]
  show Gl p e below P (T7.setTop (mkF m 54 #[.val (.int p1), .val (.int p2), .val (.int p3), .val (.int p4), .val (.int b), .val (.ref b2), .unset, .unset, .unset, .unset, .unset, .unset, .unset, .unset] [(.int r2), (.int (2 : Int32)), (.ref b2)]))
  obtain ⟨c9, Ar9, q9, S9, M9, H9, U9⟩ := id V_b2_7
  obtain ⟨T10, h10, X10, e10, W10, st10⟩ := stI X7 hx hZ e7 Ar9 (j := (2 : Int32)) (inb_of S9 ⟨(by decide : ¬ ((2 : Int32) < (0 : Int32))), (by decide : (2 : Int32) < (4 : Int32))⟩) (g := (mkF m 54 #[.val (.int p1), .val (.int p2), .val (.int p3), .val (.int p4), .val (.int b), .val (.ref b2), .unset, .unset, .unset, .unset, .unset, .unset, .unset, .unset] [(.int r2), (.int (2 : Int32)), (.ref b2)])) rfl rfl (hb hby at_54)
  refine Gl.st st10 ?_
  have Z0_v10 : n0 ≤ h10.size := Nat.le_trans Z0_v7 (Keep.of_wr W10).1
  have V_b2_10 : Arv Z h10 b2 k2 .int (4 : Int32) [(.int r0), (.int r1), (.int r2), (.int (0 : Int32))] (.int (0 : Int32)) := Arv.set Ar9 q9 S9 M9 H9 U9 rfl W10 2 rfl (Nat.le_of_ble_eq_true rfl)
  have N10 := Fr.snoc X10 N7 g_b2
  show Gl p e below P (T10.setTop (mkF m 55 #[.val (.int p1), .val (.int p2), .val (.int p3), .val (.int p4), .val (.int b), .val (.ref b2), .unset, .unset, .unset, .unset, .unset, .unset, .unset, .unset] []))
  refine Gl.st (fun _ k => XS.aload X10.here hx rfl (hb hby at_55) rfl rfl k) ?_
  show Gl p e below P (T10.setTop (mkF m 57 #[.val (.int p1), .val (.int p2), .val (.int p3), .val (.int p4), .val (.int b), .val (.ref b2), .unset, .unset, .unset, .unset, .unset, .unset, .unset, .unset] [(.ref b2)]))
  refine Gl.st (fun _ k => XS.iconst X10.here hx rfl (hb hby at_57) k) ?_
  show Gl p e below P (T10.setTop (mkF m 58 #[.val (.int p1), .val (.int p2), .val (.int p3), .val (.int p4), .val (.int b), .val (.ref b2), .unset, .unset, .unset, .unset, .unset, .unset, .unset, .unset] [(.int (3 : Int32)), (.ref b2)]))
  refine Gl.st (fun _ k => XS.aload X10.here hx rfl (hb hby at_58) rfl rfl k) ?_
  show Gl p e below P (T10.setTop (mkF m 60 #[.val (.int p1), .val (.int p2), .val (.int p3), .val (.int p4), .val (.int b), .val (.ref b2), .unset, .unset, .unset, .unset, .unset, .unset, .unset, .unset] [(.ref b2), (.int (3 : Int32)), (.ref b2)]))
  refine Gl.st (fun _ k => XS.iconst X10.here hx rfl (hb hby at_60) k) ?_
  show Gl p e below P (T10.setTop (mkF m 61 #[.val (.int p1), .val (.int p2), .val (.int p3), .val (.int p4), .val (.int b), .val (.ref b2), .unset, .unset, .unset, .unset, .unset, .unset, .unset, .unset] [(.int (2 : Int32)), (.ref b2), (.int (3 : Int32)), (.ref b2)]))
  obtain ⟨c11, Ar11, q11, S11, M11, H11, U11⟩ := id V_b2_10
  have hin11 : ¬ ((2 : Int32) < 0 ∨ c11.slots.size ≤ ((2 : Int32)).toNatClampNeg) := (inb_of S11 ⟨(by decide : ¬ ((2 : Int32) < (0 : Int32))), (by decide : (2 : Int32) < (4 : Int32))⟩)
  have hat11 : c11.slots[((2 : Int32)).toNatClampNeg]? = some (.int r2) := H11.at hin11 rfl
  refine Gl.st (X10.iaload hx (j := (2 : Int32)) (v := (.int r2)) (by rw [e10]; exact Ar11.1) (State.isArrayOf_alike hZ.alike Ar11.2.1) Ar11.2.2 hin11 hat11 (g := (mkF m 61 #[.val (.int p1), .val (.int p2), .val (.int p3), .val (.int p4), .val (.int b), .val (.ref b2), .unset, .unset, .unset, .unset, .unset, .unset, .unset, .unset] [(.int (2 : Int32)), (.ref b2), (.int (3 : Int32)), (.ref b2)])) rfl rfl (hb hby at_61)) ?_
  show Gl p e below P (T10.setTop (mkF m 62 #[.val (.int p1), .val (.int p2), .val (.int p3), .val (.int p4), .val (.int b), .val (.ref b2), .unset, .unset, .unset, .unset, .unset, .unset, .unset, .unset] [(.int r2), (.int (3 : Int32)), (.ref b2)]))
  refine Gl.st (fun _ k => XS.iconst X10.here hx rfl (hb hby at_62) k) ?_
  show Gl p e below P (T10.setTop (mkF m 63 #[.val (.int p1), .val (.int p2), .val (.int p3), .val (.int p4), .val (.int b), .val (.ref b2), .unset, .unset, .unset, .unset, .unset, .unset, .unset, .unset] [(.int (1 : Int32)), (.int r2), (.int (3 : Int32)), (.ref b2)]))
  refine Gl.st (fun _ k => XS.iadd X10.here hx rfl (hb hby at_63) rfl k) ?_
  show Gl p e below P (T10.setTop (mkF m 64 #[.val (.int p1), .val (.int p2), .val (.int p3), .val (.int p4), .val (.int b), .val (.ref b2), .unset, .unset, .unset, .unset, .unset, .unset, .unset, .unset] [(.int (r2 + (1 : Int32))), (.int (3 : Int32)), (.ref b2)]))
  refine Gl.st (fun _ k => XS.iloadN X10.here hx rfl (hb hby at_64) rfl k) ?_
  show Gl p e below P (T10.setTop (mkF m 65 #[.val (.int p1), .val (.int p2), .val (.int p3), .val (.int p4), .val (.int b), .val (.ref b2), .unset, .unset, .unset, .unset, .unset, .unset, .unset, .unset] [(.int p2), (.int (r2 + (1 : Int32))), (.int (3 : Int32)), (.ref b2)]))
  refine Gl.st (fun _ k => XS.bipush X10.here hx rfl (hb hby at_65) k) ?_
  show Gl p e below P (T10.setTop (mkF m 67 #[.val (.int p1), .val (.int p2), .val (.int p3), .val (.int p4), .val (.int b), .val (.ref b2), .unset, .unset, .unset, .unset, .unset, .unset, .unset, .unset] [(.int (6 : Int32)), (.int p2), (.int (r2 + (1 : Int32))), (.int (3 : Int32)), (.ref b2)]))
  refine Gl.st (fun _ k => XS.iushr X10.here hx rfl (hb hby at_67) rfl k) ?_
  show Gl p e below P (T10.setTop (mkF m 68 #[.val (.int p1), .val (.int p2), .val (.int p3), .val (.int p4), .val (.int b), .val (.ref b2), .unset, .unset, .unset, .unset, .unset, .unset, .unset, .unset] [(.int ((p2.toUInt32 >>> ((6 : Int32) &&& 31).toUInt32).toInt32)), (.int (r2 + (1 : Int32))), (.int (3 : Int32)), (.ref b2)]))
  refine Gl.st (fun _ k => XS.iconst X10.here hx rfl (hb hby at_68) k) ?_
  show Gl p e below P (T10.setTop (mkF m 69 #[.val (.int p1), .val (.int p2), .val (.int p3), .val (.int p4), .val (.int b), .val (.ref b2), .unset, .unset, .unset, .unset, .unset, .unset, .unset, .unset] [(.int (3 : Int32)), (.int ((p2.toUInt32 >>> ((6 : Int32) &&& 31).toUInt32).toInt32)), (.int (r2 + (1 : Int32))), (.int (3 : Int32)), (.ref b2)]))
  refine Gl.st (fun _ k => XS.iand X10.here hx rfl (hb hby at_69) rfl k) ?_
  show Gl p e below P (T10.setTop (mkF m 70 #[.val (.int p1), .val (.int p2), .val (.int p3), .val (.int p4), .val (.int b), .val (.ref b2), .unset, .unset, .unset, .unset, .unset, .unset, .unset, .unset] [(.int (((p2.toUInt32 >>> ((6 : Int32) &&& 31).toUInt32).toInt32) &&& (3 : Int32))), (.int (r2 + (1 : Int32))), (.int (3 : Int32)), (.ref b2)]))
  refine Gl.st (fun _ k => XS.iadd X10.here hx rfl (hb hby at_70) rfl k) ?_
  show Gl p e below P (T10.setTop (mkF m 71 #[.val (.int p1), .val (.int p2), .val (.int p3), .val (.int p4), .val (.int b), .val (.ref b2), .unset, .unset, .unset, .unset, .unset, .unset, .unset, .unset] [(.int ((r2 + (1 : Int32)) + (((p2.toUInt32 >>> ((6 : Int32) &&& 31).toUInt32).toInt32) &&& (3 : Int32)))), (.int (3 : Int32)), (.ref b2)]))
  obtain ⟨r3, hr3⟩ : ∃ z : Int32, z = ((r2 + (1 : Int32)) + (((p2.toUInt32 >>> ((6 : Int32) &&& 31).toUInt32).toInt32) &&& (3 : Int32))) := ⟨_, rfl⟩
  rw [← hr3]
  show Gl p e below P (T10.setTop (mkF m 71 #[.val (.int p1), .val (.int p2), .val (.int p3), .val (.int p4), .val (.int b), .val (.ref b2), .unset, .unset, .unset, .unset, .unset, .unset, .unset, .unset] [(.int r3), (.int (3 : Int32)), (.ref b2)]))
  obtain ⟨c12, Ar12, q12, S12, M12, H12, U12⟩ := id V_b2_10
  obtain ⟨T13, h13, X13, e13, W13, st13⟩ := stI X10 hx hZ e10 Ar12 (j := (3 : Int32)) (inb_of S12 ⟨(by decide : ¬ ((3 : Int32) < (0 : Int32))), (by decide : (3 : Int32) < (4 : Int32))⟩) (g := (mkF m 71 #[.val (.int p1), .val (.int p2), .val (.int p3), .val (.int p4), .val (.int b), .val (.ref b2), .unset, .unset, .unset, .unset, .unset, .unset, .unset, .unset] [(.int r3), (.int (3 : Int32)), (.ref b2)])) rfl rfl (hb hby at_71)
  refine Gl.st st13 ?_
  have Z0_v13 : n0 ≤ h13.size := Nat.le_trans Z0_v10 (Keep.of_wr W13).1
  have V_b2_13 : Arv Z h13 b2 k2 .int (4 : Int32) [(.int r0), (.int r1), (.int r2), (.int r3)] (.int (0 : Int32)) := Arv.set Ar12 q12 S12 M12 H12 U12 rfl W13 3 rfl (Nat.le_of_ble_eq_true rfl)
  have N13 := Fr.snoc X13 N10 g_b2
  show Gl p e below P (T13.setTop (mkF m 72 #[.val (.int p1), .val (.int p2), .val (.int p3), .val (.int p4), .val (.int b), .val (.ref b2), .unset, .unset, .unset, .unset, .unset, .unset, .unset, .unset] []))
  refine Gl.st (fun _ k => XS.iconst X13.here hx rfl (hb hby at_72) k) ?_
  show Gl p e below P (T13.setTop (mkF m 73 #[.val (.int p1), .val (.int p2), .val (.int p3), .val (.int p4), .val (.int b), .val (.ref b2), .unset, .unset, .unset, .unset, .unset, .unset, .unset, .unset] [(.int (4 : Int32))]))
  obtain ⟨T14, h14, k14, X14, e14, E14, A14, st14⟩ := newP X13 hx hZ (hw _ (List.mem_of_getElem? (i := 5) rfl)) e13 (g := (mkF m 73 #[.val (.int p1), .val (.int p2), .val (.int p3), .val (.int p4), .val (.int b), .val (.ref b2), .unset, .unset, .unset, .unset, .unset, .unset, .unset, .unset] [(.int (4 : Int32))])) rfl (hb hby at_73) rfl (by decide) (cap := 4) (by decide) (by decide) (by decide) (by decide)
  obtain ⟨b14, g14⟩ : ∃ z, z = h13.size := ⟨_, rfl⟩
  rw [← g14] at A14 st14
  refine Gl.st st14 ?_
  have g_b14 : n0 ≤ b14 := Nat.le_trans Z0_v13 (Nat.le_of_eq g14.symm)
  have ne_b2_b14 : b2 ≠ b14 := Nat.ne_of_lt (Nat.lt_of_lt_of_le V_b2_13.lt (Nat.le_of_eq g14.symm))
  have Z0_v14 : n0 ≤ h14.size := Nat.le_trans Z0_v13 E14.1
  have V_b2_13_v14 : Arv Z h14 b2 k2 .int (4 : Int32) [(.int r0), (.int r1), (.int r2), (.int r3)] (.int (0 : Int32)) := V_b2_13.ext E14
  have V_b14 : Arv Z h14 b14 k14 .int (4 : Int32) [(.int (0 : Int32)), (.int (0 : Int32)), (.int (0 : Int32)), (.int (0 : Int32))] (.int (0 : Int32)) := (Arv.new A14 (by decide)).pad (pad_rep [] (.int (0 : Int32)) 4)
  show Gl p e below P (T14.setTop (mkF m 75 #[.val (.int p1), .val (.int p2), .val (.int p3), .val (.int p4), .val (.int b), .val (.ref b2), .unset, .unset, .unset, .unset, .unset, .unset, .unset, .unset] [(.ref b14)]))
  refine Gl.st (fun _ k => XS.astore X14.here hx rfl (hb hby at_75) rfl rfl (l' := #[.val (.int p1), .val (.int p2), .val (.int p3), .val (.int p4), .val (.int b), .val (.ref b2), .val (.ref b14), .unset, .unset, .unset, .unset, .unset, .unset, .unset]) rfl k) ?_
  show Gl p e below P (T14.setTop (mkF m 77 #[.val (.int p1), .val (.int p2), .val (.int p3), .val (.int p4), .val (.int b), .val (.ref b2), .val (.ref b14), .unset, .unset, .unset, .unset, .unset, .unset, .unset] []))
  refine Gl.st (fun _ k => XS.aload X14.here hx rfl (hb hby at_77) rfl rfl k) ?_
  show Gl p e below P (T14.setTop (mkF m 79 #[.val (.int p1), .val (.int p2), .val (.int p3), .val (.int p4), .val (.int b), .val (.ref b2), .val (.ref b14), .unset, .unset, .unset, .unset, .unset, .unset, .unset] [(.ref b14)]))
  refine Gl.st (fun _ k => XS.iconst X14.here hx rfl (hb hby at_79) k) ?_
  show Gl p e below P (T14.setTop (mkF m 80 #[.val (.int p1), .val (.int p2), .val (.int p3), .val (.int p4), .val (.int b), .val (.ref b2), .val (.ref b14), .unset, .unset, .unset, .unset, .unset, .unset, .unset] [(.int (0 : Int32)), (.ref b14)]))
  refine Gl.st (fun _ k => XS.iload X14.here hx rfl (hb hby at_80) rfl k) ?_
  show Gl p e below P (T14.setTop (mkF m 82 #[.val (.int p1), .val (.int p2), .val (.int p3), .val (.int p4), .val (.int b), .val (.ref b2), .val (.ref b14), .unset, .unset, .unset, .unset, .unset, .unset, .unset] [(.int b), (.int (0 : Int32)), (.ref b14)]))
  refine Gl.st (fun _ k => XS.iloadN X14.here hx rfl (hb hby at_82) rfl k) ?_
  show Gl p e below P (T14.setTop (mkF m 83 #[.val (.int p1), .val (.int p2), .val (.int p3), .val (.int p4), .val (.int b), .val (.ref b2), .val (.ref b14), .unset, .unset, .unset, .unset, .unset, .unset, .unset] [(.int p3), (.int b), (.int (0 : Int32)), (.ref b14)]))
  refine Gl.st (fun _ k => XS.iconst X14.here hx rfl (hb hby at_83) k) ?_
  show Gl p e below P (T14.setTop (mkF m 84 #[.val (.int p1), .val (.int p2), .val (.int p3), .val (.int p4), .val (.int b), .val (.ref b2), .val (.ref b14), .unset, .unset, .unset, .unset, .unset, .unset, .unset] [(.int (3 : Int32)), (.int p3), (.int b), (.int (0 : Int32)), (.ref b14)]))
  refine Gl.st (fun _ k => XS.iand X14.here hx rfl (hb hby at_84) rfl k) ?_
  show Gl p e below P (T14.setTop (mkF m 85 #[.val (.int p1), .val (.int p2), .val (.int p3), .val (.int p4), .val (.int b), .val (.ref b2), .val (.ref b14), .unset, .unset, .unset, .unset, .unset, .unset, .unset] [(.int (p3 &&& (3 : Int32))), (.int b), (.int (0 : Int32)), (.ref b14)]))
  refine Gl.st (fun _ k => XS.iadd X14.here hx rfl (hb hby at_85) rfl k) ?_
  show Gl p e below P (T14.setTop (mkF m 86 #[.val (.int p1), .val (.int p2), .val (.int p3), .val (.int p4), .val (.int b), .val (.ref b2), .val (.ref b14), .unset, .unset, .unset, .unset, .unset, .unset, .unset] [(.int (b + (p3 &&& (3 : Int32)))), (.int (0 : Int32)), (.ref b14)]))
  obtain ⟨o0, ho0⟩ : ∃ z : Int32, z = (b + (p3 &&& (3 : Int32))) := ⟨_, rfl⟩
  rw [← ho0]
  show Gl p e below P (T14.setTop (mkF m 86 #[.val (.int p1), .val (.int p2), .val (.int p3), .val (.int p4), .val (.int b), .val (.ref b2), .val (.ref b14), .unset, .unset, .unset, .unset, .unset, .unset, .unset] [(.int o0), (.int (0 : Int32)), (.ref b14)]))
  obtain ⟨c15, Ar15, q15, S15, M15, H15, U15⟩ := id V_b14
  obtain ⟨T16, h16, X16, e16, W16, st16⟩ := stI X14 hx hZ e14 Ar15 (j := (0 : Int32)) (inb_of S15 ⟨(by decide : ¬ ((0 : Int32) < (0 : Int32))), (by decide : (0 : Int32) < (4 : Int32))⟩) (g := (mkF m 86 #[.val (.int p1), .val (.int p2), .val (.int p3), .val (.int p4), .val (.int b), .val (.ref b2), .val (.ref b14), .unset, .unset, .unset, .unset, .unset, .unset, .unset] [(.int o0), (.int (0 : Int32)), (.ref b14)])) rfl rfl (hb hby at_86)
  refine Gl.st st16 ?_
  have Z0_v16 : n0 ≤ h16.size := Nat.le_trans Z0_v14 (Keep.of_wr W16).1
  have V_b2_13_v16 : Arv Z h16 b2 k2 .int (4 : Int32) [(.int r0), (.int r1), (.int r2), (.int r3)] (.int (0 : Int32)) := V_b2_13_v14.other W16 ne_b2_b14
  have V_b14_16 : Arv Z h16 b14 k14 .int (4 : Int32) [(.int o0), (.int (0 : Int32)), (.int (0 : Int32)), (.int (0 : Int32))] (.int (0 : Int32)) := Arv.set Ar15 q15 S15 M15 H15 U15 rfl W16 0 rfl (Nat.le_of_ble_eq_true rfl)
  have N16 := Fr.snoc X16 N13 g_b14
  show Gl p e below P (T16.setTop (mkF m 87 #[.val (.int p1), .val (.int p2), .val (.int p3), .val (.int p4), .val (.int b), .val (.ref b2), .val (.ref b14), .unset, .unset, .unset, .unset, .unset, .unset, .unset] []))
  refine Gl.st (fun _ k => XS.aload X16.here hx rfl (hb hby at_87) rfl rfl k) ?_
  show Gl p e below P (T16.setTop (mkF m 89 #[.val (.int p1), .val (.int p2), .val (.int p3), .val (.int p4), .val (.int b), .val (.ref b2), .val (.ref b14), .unset, .unset, .unset, .unset, .unset, .unset, .unset] [(.ref b14)]))
  refine Gl.st (fun _ k => XS.iconst X16.here hx rfl (hb hby at_89) k) ?_
  show Gl p e below P (T16.setTop (mkF m 90 #[.val (.int p1), .val (.int p2), .val (.int p3), .val (.int p4), .val (.int b), .val (.ref b2), .val (.ref b14), .unset, .unset, .unset, .unset, .unset, .unset, .unset] [(.int (1 : Int32)), (.ref b14)]))
  refine Gl.st (fun _ k => XS.aload X16.here hx rfl (hb hby at_90) rfl rfl k) ?_
  show Gl p e below P (T16.setTop (mkF m 92 #[.val (.int p1), .val (.int p2), .val (.int p3), .val (.int p4), .val (.int b), .val (.ref b2), .val (.ref b14), .unset, .unset, .unset, .unset, .unset, .unset, .unset] [(.ref b14), (.int (1 : Int32)), (.ref b14)]))
  refine Gl.st (fun _ k => XS.iconst X16.here hx rfl (hb hby at_92) k) ?_
  show Gl p e below P (T16.setTop (mkF m 93 #[.val (.int p1), .val (.int p2), .val (.int p3), .val (.int p4), .val (.int b), .val (.ref b2), .val (.ref b14), .unset, .unset, .unset, .unset, .unset, .unset, .unset] [(.int (0 : Int32)), (.ref b14), (.int (1 : Int32)), (.ref b14)]))
  obtain ⟨c17, Ar17, q17, S17, M17, H17, U17⟩ := id V_b14_16
  have hin17 : ¬ ((0 : Int32) < 0 ∨ c17.slots.size ≤ ((0 : Int32)).toNatClampNeg) := (inb_of S17 ⟨(by decide : ¬ ((0 : Int32) < (0 : Int32))), (by decide : (0 : Int32) < (4 : Int32))⟩)
  have hat17 : c17.slots[((0 : Int32)).toNatClampNeg]? = some (.int o0) := H17.at hin17 rfl
  refine Gl.st (X16.iaload hx (j := (0 : Int32)) (v := (.int o0)) (by rw [e16]; exact Ar17.1) (State.isArrayOf_alike hZ.alike Ar17.2.1) Ar17.2.2 hin17 hat17 (g := (mkF m 93 #[.val (.int p1), .val (.int p2), .val (.int p3), .val (.int p4), .val (.int b), .val (.ref b2), .val (.ref b14), .unset, .unset, .unset, .unset, .unset, .unset, .unset] [(.int (0 : Int32)), (.ref b14), (.int (1 : Int32)), (.ref b14)])) rfl rfl (hb hby at_93)) ?_
  show Gl p e below P (T16.setTop (mkF m 94 #[.val (.int p1), .val (.int p2), .val (.int p3), .val (.int p4), .val (.int b), .val (.ref b2), .val (.ref b14), .unset, .unset, .unset, .unset, .unset, .unset, .unset] [(.int o0), (.int (1 : Int32)), (.ref b14)]))
  refine Gl.st (fun _ k => XS.iconst X16.here hx rfl (hb hby at_94) k) ?_
  show Gl p e below P (T16.setTop (mkF m 95 #[.val (.int p1), .val (.int p2), .val (.int p3), .val (.int p4), .val (.int b), .val (.ref b2), .val (.ref b14), .unset, .unset, .unset, .unset, .unset, .unset, .unset] [(.int (1 : Int32)), (.int o0), (.int (1 : Int32)), (.ref b14)]))
  refine Gl.st (fun _ k => XS.iadd X16.here hx rfl (hb hby at_95) rfl k) ?_
  show Gl p e below P (T16.setTop (mkF m 96 #[.val (.int p1), .val (.int p2), .val (.int p3), .val (.int p4), .val (.int b), .val (.ref b2), .val (.ref b14), .unset, .unset, .unset, .unset, .unset, .unset, .unset] [(.int (o0 + (1 : Int32))), (.int (1 : Int32)), (.ref b14)]))
  refine Gl.st (fun _ k => XS.iloadN X16.here hx rfl (hb hby at_96) rfl k) ?_
  show Gl p e below P (T16.setTop (mkF m 97 #[.val (.int p1), .val (.int p2), .val (.int p3), .val (.int p4), .val (.int b), .val (.ref b2), .val (.ref b14), .unset, .unset, .unset, .unset, .unset, .unset, .unset] [(.int p3), (.int (o0 + (1 : Int32))), (.int (1 : Int32)), (.ref b14)]))
  refine Gl.st (fun _ k => XS.iconst X16.here hx rfl (hb hby at_97) k) ?_
  show Gl p e below P (T16.setTop (mkF m 98 #[.val (.int p1), .val (.int p2), .val (.int p3), .val (.int p4), .val (.int b), .val (.ref b2), .val (.ref b14), .unset, .unset, .unset, .unset, .unset, .unset, .unset] [(.int (2 : Int32)), (.int p3), (.int (o0 + (1 : Int32))), (.int (1 : Int32)), (.ref b14)]))
  refine Gl.st (fun _ k => XS.iushr X16.here hx rfl (hb hby at_98) rfl k) ?_
  show Gl p e below P (T16.setTop (mkF m 99 #[.val (.int p1), .val (.int p2), .val (.int p3), .val (.int p4), .val (.int b), .val (.ref b2), .val (.ref b14), .unset, .unset, .unset, .unset, .unset, .unset, .unset] [(.int ((p3.toUInt32 >>> ((2 : Int32) &&& 31).toUInt32).toInt32)), (.int (o0 + (1 : Int32))), (.int (1 : Int32)), (.ref b14)]))
  refine Gl.st (fun _ k => XS.iconst X16.here hx rfl (hb hby at_99) k) ?_
  show Gl p e below P (T16.setTop (mkF m 100 #[.val (.int p1), .val (.int p2), .val (.int p3), .val (.int p4), .val (.int b), .val (.ref b2), .val (.ref b14), .unset, .unset, .unset, .unset, .unset, .unset, .unset] [(.int (3 : Int32)), (.int ((p3.toUInt32 >>> ((2 : Int32) &&& 31).toUInt32).toInt32)), (.int (o0 + (1 : Int32))), (.int (1 : Int32)), (.ref b14)]))
  refine Gl.st (fun _ k => XS.iand X16.here hx rfl (hb hby at_100) rfl k) ?_
  show Gl p e below P (T16.setTop (mkF m 101 #[.val (.int p1), .val (.int p2), .val (.int p3), .val (.int p4), .val (.int b), .val (.ref b2), .val (.ref b14), .unset, .unset, .unset, .unset, .unset, .unset, .unset] [(.int (((p3.toUInt32 >>> ((2 : Int32) &&& 31).toUInt32).toInt32) &&& (3 : Int32))), (.int (o0 + (1 : Int32))), (.int (1 : Int32)), (.ref b14)]))
  refine Gl.st (fun _ k => XS.iadd X16.here hx rfl (hb hby at_101) rfl k) ?_
  show Gl p e below P (T16.setTop (mkF m 102 #[.val (.int p1), .val (.int p2), .val (.int p3), .val (.int p4), .val (.int b), .val (.ref b2), .val (.ref b14), .unset, .unset, .unset, .unset, .unset, .unset, .unset] [(.int ((o0 + (1 : Int32)) + (((p3.toUInt32 >>> ((2 : Int32) &&& 31).toUInt32).toInt32) &&& (3 : Int32)))), (.int (1 : Int32)), (.ref b14)]))
  obtain ⟨o1, ho1⟩ : ∃ z : Int32, z = ((o0 + (1 : Int32)) + (((p3.toUInt32 >>> ((2 : Int32) &&& 31).toUInt32).toInt32) &&& (3 : Int32))) := ⟨_, rfl⟩
  rw [← ho1]
  show Gl p e below P (T16.setTop (mkF m 102 #[.val (.int p1), .val (.int p2), .val (.int p3), .val (.int p4), .val (.int b), .val (.ref b2), .val (.ref b14), .unset, .unset, .unset, .unset, .unset, .unset, .unset] [(.int o1), (.int (1 : Int32)), (.ref b14)]))
  obtain ⟨c18, Ar18, q18, S18, M18, H18, U18⟩ := id V_b14_16
  obtain ⟨T19, h19, X19, e19, W19, st19⟩ := stI X16 hx hZ e16 Ar18 (j := (1 : Int32)) (inb_of S18 ⟨(by decide : ¬ ((1 : Int32) < (0 : Int32))), (by decide : (1 : Int32) < (4 : Int32))⟩) (g := (mkF m 102 #[.val (.int p1), .val (.int p2), .val (.int p3), .val (.int p4), .val (.int b), .val (.ref b2), .val (.ref b14), .unset, .unset, .unset, .unset, .unset, .unset, .unset] [(.int o1), (.int (1 : Int32)), (.ref b14)])) rfl rfl (hb hby at_102)
  refine Gl.st st19 ?_
  have Z0_v19 : n0 ≤ h19.size := Nat.le_trans Z0_v16 (Keep.of_wr W19).1
  have V_b2_13_v19 : Arv Z h19 b2 k2 .int (4 : Int32) [(.int r0), (.int r1), (.int r2), (.int r3)] (.int (0 : Int32)) := V_b2_13_v16.other W19 ne_b2_b14
  have V_b14_19 : Arv Z h19 b14 k14 .int (4 : Int32) [(.int o0), (.int o1), (.int (0 : Int32)), (.int (0 : Int32))] (.int (0 : Int32)) := Arv.set Ar18 q18 S18 M18 H18 U18 rfl W19 1 rfl (Nat.le_of_ble_eq_true rfl)
  have N19 := Fr.snoc X19 N16 g_b14
  show Gl p e below P (T19.setTop (mkF m 103 #[.val (.int p1), .val (.int p2), .val (.int p3), .val (.int p4), .val (.int b), .val (.ref b2), .val (.ref b14), .unset, .unset, .unset, .unset, .unset, .unset, .unset] []))
  refine Gl.st (fun _ k => XS.aload X19.here hx rfl (hb hby at_103) rfl rfl k) ?_
  show Gl p e below P (T19.setTop (mkF m 105 #[.val (.int p1), .val (.int p2), .val (.int p3), .val (.int p4), .val (.int b), .val (.ref b2), .val (.ref b14), .unset, .unset, .unset, .unset, .unset, .unset, .unset] [(.ref b14)]))
  refine Gl.st (fun _ k => XS.iconst X19.here hx rfl (hb hby at_105) k) ?_
  show Gl p e below P (T19.setTop (mkF m 106 #[.val (.int p1), .val (.int p2), .val (.int p3), .val (.int p4), .val (.int b), .val (.ref b2), .val (.ref b14), .unset, .unset, .unset, .unset, .unset, .unset, .unset] [(.int (2 : Int32)), (.ref b14)]))
  refine Gl.st (fun _ k => XS.aload X19.here hx rfl (hb hby at_106) rfl rfl k) ?_
  show Gl p e below P (T19.setTop (mkF m 108 #[.val (.int p1), .val (.int p2), .val (.int p3), .val (.int p4), .val (.int b), .val (.ref b2), .val (.ref b14), .unset, .unset, .unset, .unset, .unset, .unset, .unset] [(.ref b14), (.int (2 : Int32)), (.ref b14)]))
  refine Gl.st (fun _ k => XS.iconst X19.here hx rfl (hb hby at_108) k) ?_
  show Gl p e below P (T19.setTop (mkF m 109 #[.val (.int p1), .val (.int p2), .val (.int p3), .val (.int p4), .val (.int b), .val (.ref b2), .val (.ref b14), .unset, .unset, .unset, .unset, .unset, .unset, .unset] [(.int (1 : Int32)), (.ref b14), (.int (2 : Int32)), (.ref b14)]))
  obtain ⟨c20, Ar20, q20, S20, M20, H20, U20⟩ := id V_b14_19
  have hin20 : ¬ ((1 : Int32) < 0 ∨ c20.slots.size ≤ ((1 : Int32)).toNatClampNeg) := (inb_of S20 ⟨(by decide : ¬ ((1 : Int32) < (0 : Int32))), (by decide : (1 : Int32) < (4 : Int32))⟩)
  have hat20 : c20.slots[((1 : Int32)).toNatClampNeg]? = some (.int o1) := H20.at hin20 rfl
  refine Gl.st (X19.iaload hx (j := (1 : Int32)) (v := (.int o1)) (by rw [e19]; exact Ar20.1) (State.isArrayOf_alike hZ.alike Ar20.2.1) Ar20.2.2 hin20 hat20 (g := (mkF m 109 #[.val (.int p1), .val (.int p2), .val (.int p3), .val (.int p4), .val (.int b), .val (.ref b2), .val (.ref b14), .unset, .unset, .unset, .unset, .unset, .unset, .unset] [(.int (1 : Int32)), (.ref b14), (.int (2 : Int32)), (.ref b14)])) rfl rfl (hb hby at_109)) ?_
  show Gl p e below P (T19.setTop (mkF m 110 #[.val (.int p1), .val (.int p2), .val (.int p3), .val (.int p4), .val (.int b), .val (.ref b2), .val (.ref b14), .unset, .unset, .unset, .unset, .unset, .unset, .unset] [(.int o1), (.int (2 : Int32)), (.ref b14)]))
  refine Gl.st (fun _ k => XS.iconst X19.here hx rfl (hb hby at_110) k) ?_
  show Gl p e below P (T19.setTop (mkF m 111 #[.val (.int p1), .val (.int p2), .val (.int p3), .val (.int p4), .val (.int b), .val (.ref b2), .val (.ref b14), .unset, .unset, .unset, .unset, .unset, .unset, .unset] [(.int (1 : Int32)), (.int o1), (.int (2 : Int32)), (.ref b14)]))
  refine Gl.st (fun _ k => XS.iadd X19.here hx rfl (hb hby at_111) rfl k) ?_
  show Gl p e below P (T19.setTop (mkF m 112 #[.val (.int p1), .val (.int p2), .val (.int p3), .val (.int p4), .val (.int b), .val (.ref b2), .val (.ref b14), .unset, .unset, .unset, .unset, .unset, .unset, .unset] [(.int (o1 + (1 : Int32))), (.int (2 : Int32)), (.ref b14)]))
  refine Gl.st (fun _ k => XS.iloadN X19.here hx rfl (hb hby at_112) rfl k) ?_
  show Gl p e below P (T19.setTop (mkF m 113 #[.val (.int p1), .val (.int p2), .val (.int p3), .val (.int p4), .val (.int b), .val (.ref b2), .val (.ref b14), .unset, .unset, .unset, .unset, .unset, .unset, .unset] [(.int p3), (.int (o1 + (1 : Int32))), (.int (2 : Int32)), (.ref b14)]))
  refine Gl.st (fun _ k => XS.iconst X19.here hx rfl (hb hby at_113) k) ?_
  show Gl p e below P (T19.setTop (mkF m 114 #[.val (.int p1), .val (.int p2), .val (.int p3), .val (.int p4), .val (.int b), .val (.ref b2), .val (.ref b14), .unset, .unset, .unset, .unset, .unset, .unset, .unset] [(.int (4 : Int32)), (.int p3), (.int (o1 + (1 : Int32))), (.int (2 : Int32)), (.ref b14)]))
  refine Gl.st (fun _ k => XS.iushr X19.here hx rfl (hb hby at_114) rfl k) ?_
  show Gl p e below P (T19.setTop (mkF m 115 #[.val (.int p1), .val (.int p2), .val (.int p3), .val (.int p4), .val (.int b), .val (.ref b2), .val (.ref b14), .unset, .unset, .unset, .unset, .unset, .unset, .unset] [(.int ((p3.toUInt32 >>> ((4 : Int32) &&& 31).toUInt32).toInt32)), (.int (o1 + (1 : Int32))), (.int (2 : Int32)), (.ref b14)]))
  refine Gl.st (fun _ k => XS.iconst X19.here hx rfl (hb hby at_115) k) ?_
  show Gl p e below P (T19.setTop (mkF m 116 #[.val (.int p1), .val (.int p2), .val (.int p3), .val (.int p4), .val (.int b), .val (.ref b2), .val (.ref b14), .unset, .unset, .unset, .unset, .unset, .unset, .unset] [(.int (3 : Int32)), (.int ((p3.toUInt32 >>> ((4 : Int32) &&& 31).toUInt32).toInt32)), (.int (o1 + (1 : Int32))), (.int (2 : Int32)), (.ref b14)]))
  refine Gl.st (fun _ k => XS.iand X19.here hx rfl (hb hby at_116) rfl k) ?_
  show Gl p e below P (T19.setTop (mkF m 117 #[.val (.int p1), .val (.int p2), .val (.int p3), .val (.int p4), .val (.int b), .val (.ref b2), .val (.ref b14), .unset, .unset, .unset, .unset, .unset, .unset, .unset] [(.int (((p3.toUInt32 >>> ((4 : Int32) &&& 31).toUInt32).toInt32) &&& (3 : Int32))), (.int (o1 + (1 : Int32))), (.int (2 : Int32)), (.ref b14)]))
  refine Gl.st (fun _ k => XS.iadd X19.here hx rfl (hb hby at_117) rfl k) ?_
  show Gl p e below P (T19.setTop (mkF m 118 #[.val (.int p1), .val (.int p2), .val (.int p3), .val (.int p4), .val (.int b), .val (.ref b2), .val (.ref b14), .unset, .unset, .unset, .unset, .unset, .unset, .unset] [(.int ((o1 + (1 : Int32)) + (((p3.toUInt32 >>> ((4 : Int32) &&& 31).toUInt32).toInt32) &&& (3 : Int32)))), (.int (2 : Int32)), (.ref b14)]))
  obtain ⟨o2, ho2⟩ : ∃ z : Int32, z = ((o1 + (1 : Int32)) + (((p3.toUInt32 >>> ((4 : Int32) &&& 31).toUInt32).toInt32) &&& (3 : Int32))) := ⟨_, rfl⟩
  rw [← ho2]
  show Gl p e below P (T19.setTop (mkF m 118 #[.val (.int p1), .val (.int p2), .val (.int p3), .val (.int p4), .val (.int b), .val (.ref b2), .val (.ref b14), .unset, .unset, .unset, .unset, .unset, .unset, .unset] [(.int o2), (.int (2 : Int32)), (.ref b14)]))
  obtain ⟨c21, Ar21, q21, S21, M21, H21, U21⟩ := id V_b14_19
  obtain ⟨T22, h22, X22, e22, W22, st22⟩ := stI X19 hx hZ e19 Ar21 (j := (2 : Int32)) (inb_of S21 ⟨(by decide : ¬ ((2 : Int32) < (0 : Int32))), (by decide : (2 : Int32) < (4 : Int32))⟩) (g := (mkF m 118 #[.val (.int p1), .val (.int p2), .val (.int p3), .val (.int p4), .val (.int b), .val (.ref b2), .val (.ref b14), .unset, .unset, .unset, .unset, .unset, .unset, .unset] [(.int o2), (.int (2 : Int32)), (.ref b14)])) rfl rfl (hb hby at_118)
  refine Gl.st st22 ?_
  have Z0_v22 : n0 ≤ h22.size := Nat.le_trans Z0_v19 (Keep.of_wr W22).1
  have V_b2_13_v22 : Arv Z h22 b2 k2 .int (4 : Int32) [(.int r0), (.int r1), (.int r2), (.int r3)] (.int (0 : Int32)) := V_b2_13_v19.other W22 ne_b2_b14
  have V_b14_22 : Arv Z h22 b14 k14 .int (4 : Int32) [(.int o0), (.int o1), (.int o2), (.int (0 : Int32))] (.int (0 : Int32)) := Arv.set Ar21 q21 S21 M21 H21 U21 rfl W22 2 rfl (Nat.le_of_ble_eq_true rfl)
  have N22 := Fr.snoc X22 N19 g_b14
  show Gl p e below P (T22.setTop (mkF m 119 #[.val (.int p1), .val (.int p2), .val (.int p3), .val (.int p4), .val (.int b), .val (.ref b2), .val (.ref b14), .unset, .unset, .unset, .unset, .unset, .unset, .unset] []))
  refine Gl.st (fun _ k => XS.aload X22.here hx rfl (hb hby at_119) rfl rfl k) ?_
  show Gl p e below P (T22.setTop (mkF m 121 #[.val (.int p1), .val (.int p2), .val (.int p3), .val (.int p4), .val (.int b), .val (.ref b2), .val (.ref b14), .unset, .unset, .unset, .unset, .unset, .unset, .unset] [(.ref b14)]))
  refine Gl.st (fun _ k => XS.iconst X22.here hx rfl (hb hby at_121) k) ?_
  show Gl p e below P (T22.setTop (mkF m 122 #[.val (.int p1), .val (.int p2), .val (.int p3), .val (.int p4), .val (.int b), .val (.ref b2), .val (.ref b14), .unset, .unset, .unset, .unset, .unset, .unset, .unset] [(.int (3 : Int32)), (.ref b14)]))
  refine Gl.st (fun _ k => XS.aload X22.here hx rfl (hb hby at_122) rfl rfl k) ?_
  show Gl p e below P (T22.setTop (mkF m 124 #[.val (.int p1), .val (.int p2), .val (.int p3), .val (.int p4), .val (.int b), .val (.ref b2), .val (.ref b14), .unset, .unset, .unset, .unset, .unset, .unset, .unset] [(.ref b14), (.int (3 : Int32)), (.ref b14)]))
  refine Gl.st (fun _ k => XS.iconst X22.here hx rfl (hb hby at_124) k) ?_
  show Gl p e below P (T22.setTop (mkF m 125 #[.val (.int p1), .val (.int p2), .val (.int p3), .val (.int p4), .val (.int b), .val (.ref b2), .val (.ref b14), .unset, .unset, .unset, .unset, .unset, .unset, .unset] [(.int (2 : Int32)), (.ref b14), (.int (3 : Int32)), (.ref b14)]))
  obtain ⟨c23, Ar23, q23, S23, M23, H23, U23⟩ := id V_b14_22
  have hin23 : ¬ ((2 : Int32) < 0 ∨ c23.slots.size ≤ ((2 : Int32)).toNatClampNeg) := (inb_of S23 ⟨(by decide : ¬ ((2 : Int32) < (0 : Int32))), (by decide : (2 : Int32) < (4 : Int32))⟩)
  have hat23 : c23.slots[((2 : Int32)).toNatClampNeg]? = some (.int o2) := H23.at hin23 rfl
  refine Gl.st (X22.iaload hx (j := (2 : Int32)) (v := (.int o2)) (by rw [e22]; exact Ar23.1) (State.isArrayOf_alike hZ.alike Ar23.2.1) Ar23.2.2 hin23 hat23 (g := (mkF m 125 #[.val (.int p1), .val (.int p2), .val (.int p3), .val (.int p4), .val (.int b), .val (.ref b2), .val (.ref b14), .unset, .unset, .unset, .unset, .unset, .unset, .unset] [(.int (2 : Int32)), (.ref b14), (.int (3 : Int32)), (.ref b14)])) rfl rfl (hb hby at_125)) ?_
  show Gl p e below P (T22.setTop (mkF m 126 #[.val (.int p1), .val (.int p2), .val (.int p3), .val (.int p4), .val (.int b), .val (.ref b2), .val (.ref b14), .unset, .unset, .unset, .unset, .unset, .unset, .unset] [(.int o2), (.int (3 : Int32)), (.ref b14)]))
  refine Gl.st (fun _ k => XS.iconst X22.here hx rfl (hb hby at_126) k) ?_
  show Gl p e below P (T22.setTop (mkF m 127 #[.val (.int p1), .val (.int p2), .val (.int p3), .val (.int p4), .val (.int b), .val (.ref b2), .val (.ref b14), .unset, .unset, .unset, .unset, .unset, .unset, .unset] [(.int (1 : Int32)), (.int o2), (.int (3 : Int32)), (.ref b14)]))
  refine Gl.st (fun _ k => XS.iadd X22.here hx rfl (hb hby at_127) rfl k) ?_
  show Gl p e below P (T22.setTop (mkF m 128 #[.val (.int p1), .val (.int p2), .val (.int p3), .val (.int p4), .val (.int b), .val (.ref b2), .val (.ref b14), .unset, .unset, .unset, .unset, .unset, .unset, .unset] [(.int (o2 + (1 : Int32))), (.int (3 : Int32)), (.ref b14)]))
  refine Gl.st (fun _ k => XS.iloadN X22.here hx rfl (hb hby at_128) rfl k) ?_
  show Gl p e below P (T22.setTop (mkF m 129 #[.val (.int p1), .val (.int p2), .val (.int p3), .val (.int p4), .val (.int b), .val (.ref b2), .val (.ref b14), .unset, .unset, .unset, .unset, .unset, .unset, .unset] [(.int p3), (.int (o2 + (1 : Int32))), (.int (3 : Int32)), (.ref b14)]))
  refine Gl.st (fun _ k => XS.bipush X22.here hx rfl (hb hby at_129) k) ?_
  show Gl p e below P (T22.setTop (mkF m 131 #[.val (.int p1), .val (.int p2), .val (.int p3), .val (.int p4), .val (.int b), .val (.ref b2), .val (.ref b14), .unset, .unset, .unset, .unset, .unset, .unset, .unset] [(.int (6 : Int32)), (.int p3), (.int (o2 + (1 : Int32))), (.int (3 : Int32)), (.ref b14)]))
  refine Gl.st (fun _ k => XS.iushr X22.here hx rfl (hb hby at_131) rfl k) ?_
  show Gl p e below P (T22.setTop (mkF m 132 #[.val (.int p1), .val (.int p2), .val (.int p3), .val (.int p4), .val (.int b), .val (.ref b2), .val (.ref b14), .unset, .unset, .unset, .unset, .unset, .unset, .unset] [(.int ((p3.toUInt32 >>> ((6 : Int32) &&& 31).toUInt32).toInt32)), (.int (o2 + (1 : Int32))), (.int (3 : Int32)), (.ref b14)]))
  refine Gl.st (fun _ k => XS.iconst X22.here hx rfl (hb hby at_132) k) ?_
  show Gl p e below P (T22.setTop (mkF m 133 #[.val (.int p1), .val (.int p2), .val (.int p3), .val (.int p4), .val (.int b), .val (.ref b2), .val (.ref b14), .unset, .unset, .unset, .unset, .unset, .unset, .unset] [(.int (3 : Int32)), (.int ((p3.toUInt32 >>> ((6 : Int32) &&& 31).toUInt32).toInt32)), (.int (o2 + (1 : Int32))), (.int (3 : Int32)), (.ref b14)]))
  refine Gl.st (fun _ k => XS.iand X22.here hx rfl (hb hby at_133) rfl k) ?_
  show Gl p e below P (T22.setTop (mkF m 134 #[.val (.int p1), .val (.int p2), .val (.int p3), .val (.int p4), .val (.int b), .val (.ref b2), .val (.ref b14), .unset, .unset, .unset, .unset, .unset, .unset, .unset] [(.int (((p3.toUInt32 >>> ((6 : Int32) &&& 31).toUInt32).toInt32) &&& (3 : Int32))), (.int (o2 + (1 : Int32))), (.int (3 : Int32)), (.ref b14)]))
  refine Gl.st (fun _ k => XS.iadd X22.here hx rfl (hb hby at_134) rfl k) ?_
  show Gl p e below P (T22.setTop (mkF m 135 #[.val (.int p1), .val (.int p2), .val (.int p3), .val (.int p4), .val (.int b), .val (.ref b2), .val (.ref b14), .unset, .unset, .unset, .unset, .unset, .unset, .unset] [(.int ((o2 + (1 : Int32)) + (((p3.toUInt32 >>> ((6 : Int32) &&& 31).toUInt32).toInt32) &&& (3 : Int32)))), (.int (3 : Int32)), (.ref b14)]))
  obtain ⟨o3, ho3⟩ : ∃ z : Int32, z = ((o2 + (1 : Int32)) + (((p3.toUInt32 >>> ((6 : Int32) &&& 31).toUInt32).toInt32) &&& (3 : Int32))) := ⟨_, rfl⟩
  rw [← ho3]
  show Gl p e below P (T22.setTop (mkF m 135 #[.val (.int p1), .val (.int p2), .val (.int p3), .val (.int p4), .val (.int b), .val (.ref b2), .val (.ref b14), .unset, .unset, .unset, .unset, .unset, .unset, .unset] [(.int o3), (.int (3 : Int32)), (.ref b14)]))
  obtain ⟨c24, Ar24, q24, S24, M24, H24, U24⟩ := id V_b14_22
  obtain ⟨T25, h25, X25, e25, W25, st25⟩ := stI X22 hx hZ e22 Ar24 (j := (3 : Int32)) (inb_of S24 ⟨(by decide : ¬ ((3 : Int32) < (0 : Int32))), (by decide : (3 : Int32) < (4 : Int32))⟩) (g := (mkF m 135 #[.val (.int p1), .val (.int p2), .val (.int p3), .val (.int p4), .val (.int b), .val (.ref b2), .val (.ref b14), .unset, .unset, .unset, .unset, .unset, .unset, .unset] [(.int o3), (.int (3 : Int32)), (.ref b14)])) rfl rfl (hb hby at_135)
  refine Gl.st st25 ?_
  have Z0_v25 : n0 ≤ h25.size := Nat.le_trans Z0_v22 (Keep.of_wr W25).1
  have V_b2_13_v25 : Arv Z h25 b2 k2 .int (4 : Int32) [(.int r0), (.int r1), (.int r2), (.int r3)] (.int (0 : Int32)) := V_b2_13_v22.other W25 ne_b2_b14
  have V_b14_25 : Arv Z h25 b14 k14 .int (4 : Int32) [(.int o0), (.int o1), (.int o2), (.int o3)] (.int (0 : Int32)) := Arv.set Ar24 q24 S24 M24 H24 U24 rfl W25 3 rfl (Nat.le_of_ble_eq_true rfl)
  have N25 := Fr.snoc X25 N22 g_b14
  show Gl p e below P (T25.setTop (mkF m 136 #[.val (.int p1), .val (.int p2), .val (.int p3), .val (.int p4), .val (.int b), .val (.ref b2), .val (.ref b14), .unset, .unset, .unset, .unset, .unset, .unset, .unset] []))
  refine Gl.st (fun _ k => XS.iloadN X25.here hx rfl (hb hby at_136) rfl k) ?_
  show Gl p e below P (T25.setTop (mkF m 137 #[.val (.int p1), .val (.int p2), .val (.int p3), .val (.int p4), .val (.int b), .val (.ref b2), .val (.ref b14), .unset, .unset, .unset, .unset, .unset, .unset, .unset] [(.int p4)]))
  refine Gl.st (fun _ k => XS.bipush X25.here hx rfl (hb hby at_137) k) ?_
  show Gl p e below P (T25.setTop (mkF m 139 #[.val (.int p1), .val (.int p2), .val (.int p3), .val (.int p4), .val (.int b), .val (.ref b2), .val (.ref b14), .unset, .unset, .unset, .unset, .unset, .unset, .unset] [(.int (7 : Int32)), (.int p4)]))
  refine Gl.st (fun _ k => XS.iand X25.here hx rfl (hb hby at_139) rfl k) ?_
  show Gl p e below P (T25.setTop (mkF m 140 #[.val (.int p1), .val (.int p2), .val (.int p3), .val (.int p4), .val (.int b), .val (.ref b2), .val (.ref b14), .unset, .unset, .unset, .unset, .unset, .unset, .unset] [(.int (p4 &&& (7 : Int32)))]))
  refine Gl.st (fun _ k => XS.iconst X25.here hx rfl (hb hby at_140) k) ?_
  show Gl p e below P (T25.setTop (mkF m 141 #[.val (.int p1), .val (.int p2), .val (.int p3), .val (.int p4), .val (.int b), .val (.ref b2), .val (.ref b14), .unset, .unset, .unset, .unset, .unset, .unset, .unset] [(.int (5 : Int32)), (.int (p4 &&& (7 : Int32)))]))
  refine Gl.st (fun _ k => iremM (g := (mkF m 141 #[.val (.int p1), .val (.int p2), .val (.int p3), .val (.int p4), .val (.int b), .val (.ref b2), .val (.ref b14), .unset, .unset, .unset, .unset, .unset, .unset, .unset] [(.int (5 : Int32)), (.int (p4 &&& (7 : Int32)))])) X25 hx rfl (hb hby at_141) rfl (by decide) k) ?_
  show Gl p e below P (T25.setTop (mkF m 142 #[.val (.int p1), .val (.int p2), .val (.int p3), .val (.int p4), .val (.int b), .val (.ref b2), .val (.ref b14), .unset, .unset, .unset, .unset, .unset, .unset, .unset] [(.int ((p4 &&& (7 : Int32)) % (5 : Int32)))]))
  obtain ⟨f, hf, ef⟩ := own_rem5 p4
  rw [show ((p4 &&& (7 : Int32)) % (5 : Int32)) = (Int32.ofNat f) from ef]
  show Gl p e below P (T25.setTop (mkF m 142 #[.val (.int p1), .val (.int p2), .val (.int p3), .val (.int p4), .val (.int b), .val (.ref b2), .val (.ref b14), .unset, .unset, .unset, .unset, .unset, .unset, .unset] [(.int (Int32.ofNat f))]))
  refine Gl.st (fun _ k => XS.istore X25.here hx rfl (hb hby at_142) rfl (l' := #[.val (.int p1), .val (.int p2), .val (.int p3), .val (.int p4), .val (.int b), .val (.ref b2), .val (.ref b14), .val (.int (Int32.ofNat f)), .unset, .unset, .unset, .unset, .unset, .unset]) rfl k) ?_
  show Gl p e below P (T25.setTop (mkF m 144 #[.val (.int p1), .val (.int p2), .val (.int p3), .val (.int p4), .val (.int b), .val (.ref b2), .val (.ref b14), .val (.int (Int32.ofNat f)), .unset, .unset, .unset, .unset, .unset, .unset] []))
  refine Gl.st (fun _ k => XS.iloadN X25.here hx rfl (hb hby at_144) rfl k) ?_
  show Gl p e below P (T25.setTop (mkF m 145 #[.val (.int p1), .val (.int p2), .val (.int p3), .val (.int p4), .val (.int b), .val (.ref b2), .val (.ref b14), .val (.int (Int32.ofNat f)), .unset, .unset, .unset, .unset, .unset, .unset] [(.int p4)]))
  refine Gl.st (fun _ k => XS.iconst X25.here hx rfl (hb hby at_145) k) ?_
  show Gl p e below P (T25.setTop (mkF m 146 #[.val (.int p1), .val (.int p2), .val (.int p3), .val (.int p4), .val (.int b), .val (.ref b2), .val (.ref b14), .val (.int (Int32.ofNat f)), .unset, .unset, .unset, .unset, .unset, .unset] [(.int (3 : Int32)), (.int p4)]))
  refine Gl.st (fun _ k => XS.iushr X25.here hx rfl (hb hby at_146) rfl k) ?_
  show Gl p e below P (T25.setTop (mkF m 147 #[.val (.int p1), .val (.int p2), .val (.int p3), .val (.int p4), .val (.int b), .val (.ref b2), .val (.ref b14), .val (.int (Int32.ofNat f)), .unset, .unset, .unset, .unset, .unset, .unset] [(.int ((p4.toUInt32 >>> ((3 : Int32) &&& 31).toUInt32).toInt32))]))
  refine Gl.st (fun _ k => XS.bipush X25.here hx rfl (hb hby at_147) k) ?_
  show Gl p e below P (T25.setTop (mkF m 149 #[.val (.int p1), .val (.int p2), .val (.int p3), .val (.int p4), .val (.int b), .val (.ref b2), .val (.ref b14), .val (.int (Int32.ofNat f)), .unset, .unset, .unset, .unset, .unset, .unset] [(.int (7 : Int32)), (.int ((p4.toUInt32 >>> ((3 : Int32) &&& 31).toUInt32).toInt32))]))
  refine Gl.st (fun _ k => XS.iand X25.here hx rfl (hb hby at_149) rfl k) ?_
  show Gl p e below P (T25.setTop (mkF m 150 #[.val (.int p1), .val (.int p2), .val (.int p3), .val (.int p4), .val (.int b), .val (.ref b2), .val (.ref b14), .val (.int (Int32.ofNat f)), .unset, .unset, .unset, .unset, .unset, .unset] [(.int (((p4.toUInt32 >>> ((3 : Int32) &&& 31).toUInt32).toInt32) &&& (7 : Int32)))]))
  refine Gl.st (fun _ k => XS.iconst X25.here hx rfl (hb hby at_150) k) ?_
  show Gl p e below P (T25.setTop (mkF m 151 #[.val (.int p1), .val (.int p2), .val (.int p3), .val (.int p4), .val (.int b), .val (.ref b2), .val (.ref b14), .val (.int (Int32.ofNat f)), .unset, .unset, .unset, .unset, .unset, .unset] [(.int (5 : Int32)), (.int (((p4.toUInt32 >>> ((3 : Int32) &&& 31).toUInt32).toInt32) &&& (7 : Int32)))]))
  refine Gl.st (fun _ k => iremM (g := (mkF m 151 #[.val (.int p1), .val (.int p2), .val (.int p3), .val (.int p4), .val (.int b), .val (.ref b2), .val (.ref b14), .val (.int (Int32.ofNat f)), .unset, .unset, .unset, .unset, .unset, .unset] [(.int (5 : Int32)), (.int (((p4.toUInt32 >>> ((3 : Int32) &&& 31).toUInt32).toInt32) &&& (7 : Int32)))])) X25 hx rfl (hb hby at_151) rfl (by decide) k) ?_
  show Gl p e below P (T25.setTop (mkF m 152 #[.val (.int p1), .val (.int p2), .val (.int p3), .val (.int p4), .val (.int b), .val (.ref b2), .val (.ref b14), .val (.int (Int32.ofNat f)), .unset, .unset, .unset, .unset, .unset, .unset] [(.int ((((p4.toUInt32 >>> ((3 : Int32) &&& 31).toUInt32).toInt32) &&& (7 : Int32)) % (5 : Int32)))]))
  obtain ⟨ct, hct, ec⟩ := own_rem5 ((p4.toUInt32 >>> ((3 : Int32) &&& 31).toUInt32).toInt32)
  rw [show ((((p4.toUInt32 >>> ((3 : Int32) &&& 31).toUInt32).toInt32) &&& (7 : Int32)) % (5 : Int32)) = (Int32.ofNat ct) from ec]
  show Gl p e below P (T25.setTop (mkF m 152 #[.val (.int p1), .val (.int p2), .val (.int p3), .val (.int p4), .val (.int b), .val (.ref b2), .val (.ref b14), .val (.int (Int32.ofNat f)), .unset, .unset, .unset, .unset, .unset, .unset] [(.int (Int32.ofNat ct))]))
  refine Gl.st (fun _ k => XS.istore X25.here hx rfl (hb hby at_152) rfl (l' := #[.val (.int p1), .val (.int p2), .val (.int p3), .val (.int p4), .val (.int b), .val (.ref b2), .val (.ref b14), .val (.int (Int32.ofNat f)), .val (.int (Int32.ofNat ct)), .unset, .unset, .unset, .unset, .unset]) rfl k) ?_
  show Gl p e below P (T25.setTop (mkF m 154 #[.val (.int p1), .val (.int p2), .val (.int p3), .val (.int p4), .val (.int b), .val (.ref b2), .val (.ref b14), .val (.int (Int32.ofNat f)), .val (.int (Int32.ofNat ct)), .unset, .unset, .unset, .unset, .unset] []))
  refine Gl.st (fun _ k => XS.iload X25.here hx rfl (hb hby at_154) rfl k) ?_
  show Gl p e below P (T25.setTop (mkF m 156 #[.val (.int p1), .val (.int p2), .val (.int p3), .val (.int p4), .val (.int b), .val (.ref b2), .val (.ref b14), .val (.int (Int32.ofNat f)), .val (.int (Int32.ofNat ct)), .unset, .unset, .unset, .unset, .unset] [(.int b)]))
  refine Gl.st (fun _ k => XS.iconst X25.here hx rfl (hb hby at_156) k) ?_
  show Gl p e below P (T25.setTop (mkF m 157 #[.val (.int p1), .val (.int p2), .val (.int p3), .val (.int p4), .val (.int b), .val (.ref b2), .val (.ref b14), .val (.int (Int32.ofNat f)), .val (.int (Int32.ofNat ct)), .unset, .unset, .unset, .unset, .unset] [(.int (1 : Int32)), (.int b)]))
  refine Gl.st (fun _ k => XS.isub X25.here hx rfl (hb hby at_157) rfl k) ?_
  show Gl p e below P (T25.setTop (mkF m 158 #[.val (.int p1), .val (.int p2), .val (.int p3), .val (.int p4), .val (.int b), .val (.ref b2), .val (.ref b14), .val (.int (Int32.ofNat f)), .val (.int (Int32.ofNat ct)), .unset, .unset, .unset, .unset, .unset] [(.int (b - (1 : Int32)))]))
  obtain ⟨sn, hsn⟩ : ∃ z : Int32, z = (b - (1 : Int32)) := ⟨_, rfl⟩
  rw [← hsn]
  show Gl p e below P (T25.setTop (mkF m 158 #[.val (.int p1), .val (.int p2), .val (.int p3), .val (.int p4), .val (.int b), .val (.ref b2), .val (.ref b14), .val (.int (Int32.ofNat f)), .val (.int (Int32.ofNat ct)), .unset, .unset, .unset, .unset, .unset] [(.int sn)]))
  refine Gl.st (fun _ k => XS.istore X25.here hx rfl (hb hby at_158) rfl (l' := #[.val (.int p1), .val (.int p2), .val (.int p3), .val (.int p4), .val (.int b), .val (.ref b2), .val (.ref b14), .val (.int (Int32.ofNat f)), .val (.int (Int32.ofNat ct)), .val (.int sn), .unset, .unset, .unset, .unset]) rfl k) ?_
  show Gl p e below P (T25.setTop (mkF m 160 #[.val (.int p1), .val (.int p2), .val (.int p3), .val (.int p4), .val (.int b), .val (.ref b2), .val (.ref b14), .val (.int (Int32.ofNat f)), .val (.int (Int32.ofNat ct)), .val (.int sn), .unset, .unset, .unset, .unset] []))
  refine Gl.st (fun _ k => XS.iconst X25.here hx rfl (hb hby at_160) k) ?_
  show Gl p e below P (T25.setTop (mkF m 161 #[.val (.int p1), .val (.int p2), .val (.int p3), .val (.int p4), .val (.int b), .val (.ref b2), .val (.ref b14), .val (.int (Int32.ofNat f)), .val (.int (Int32.ofNat ct)), .val (.int sn), .unset, .unset, .unset, .unset] [(.int (4 : Int32))]))
  obtain ⟨T26, h26, k26, X26, e26, E26, A26, st26⟩ := newP X25 hx hZ (hw _ (List.mem_of_getElem? (i := 5) rfl)) e25 (g := (mkF m 161 #[.val (.int p1), .val (.int p2), .val (.int p3), .val (.int p4), .val (.int b), .val (.ref b2), .val (.ref b14), .val (.int (Int32.ofNat f)), .val (.int (Int32.ofNat ct)), .val (.int sn), .unset, .unset, .unset, .unset] [(.int (4 : Int32))])) rfl (hb hby at_161) rfl (by decide) (cap := 4) (by decide) (by decide) (by decide) (by decide)
  obtain ⟨b26, g26⟩ : ∃ z, z = h25.size := ⟨_, rfl⟩
  rw [← g26] at A26 st26
  refine Gl.st st26 ?_
  have g_b26 : n0 ≤ b26 := Nat.le_trans Z0_v25 (Nat.le_of_eq g26.symm)
  have ne_b2_b26 : b2 ≠ b26 := Nat.ne_of_lt (Nat.lt_of_lt_of_le V_b2_13_v25.lt (Nat.le_of_eq g26.symm))
  have ne_b14_b26 : b14 ≠ b26 := Nat.ne_of_lt (Nat.lt_of_lt_of_le V_b14_25.lt (Nat.le_of_eq g26.symm))
  have Z0_v26 : n0 ≤ h26.size := Nat.le_trans Z0_v25 E26.1
  have V_b2_13_v26 : Arv Z h26 b2 k2 .int (4 : Int32) [(.int r0), (.int r1), (.int r2), (.int r3)] (.int (0 : Int32)) := V_b2_13_v25.ext E26
  have V_b14_25_v26 : Arv Z h26 b14 k14 .int (4 : Int32) [(.int o0), (.int o1), (.int o2), (.int o3)] (.int (0 : Int32)) := V_b14_25.ext E26
  have V_b26 : Arv Z h26 b26 k26 .int (4 : Int32) [(.int (0 : Int32)), (.int (0 : Int32)), (.int (0 : Int32)), (.int (0 : Int32))] (.int (0 : Int32)) := (Arv.new A26 (by decide)).pad (pad_rep [] (.int (0 : Int32)) 4)
  show Gl p e below P (T26.setTop (mkF m 163 #[.val (.int p1), .val (.int p2), .val (.int p3), .val (.int p4), .val (.int b), .val (.ref b2), .val (.ref b14), .val (.int (Int32.ofNat f)), .val (.int (Int32.ofNat ct)), .val (.int sn), .unset, .unset, .unset, .unset] [(.ref b26)]))
  refine Gl.st (fun _ k => XS.astore X26.here hx rfl (hb hby at_163) rfl rfl (l' := #[.val (.int p1), .val (.int p2), .val (.int p3), .val (.int p4), .val (.int b), .val (.ref b2), .val (.ref b14), .val (.int (Int32.ofNat f)), .val (.int (Int32.ofNat ct)), .val (.int sn), .val (.ref b26), .unset, .unset, .unset]) rfl k) ?_
  show Gl p e below P (T26.setTop (mkF m 165 #[.val (.int p1), .val (.int p2), .val (.int p3), .val (.int p4), .val (.int b), .val (.ref b2), .val (.ref b14), .val (.int (Int32.ofNat f)), .val (.int (Int32.ofNat ct)), .val (.int sn), .val (.ref b26), .unset, .unset, .unset] []))
  refine Gl.st (fun _ k => XS.aload X26.here hx rfl (hb hby at_165) rfl rfl k) ?_
  show Gl p e below P (T26.setTop (mkF m 167 #[.val (.int p1), .val (.int p2), .val (.int p3), .val (.int p4), .val (.int b), .val (.ref b2), .val (.ref b14), .val (.int (Int32.ofNat f)), .val (.int (Int32.ofNat ct)), .val (.int sn), .val (.ref b26), .unset, .unset, .unset] [(.ref b26)]))
  refine Gl.st (fun _ k => XS.iconst X26.here hx rfl (hb hby at_167) k) ?_
  show Gl p e below P (T26.setTop (mkF m 168 #[.val (.int p1), .val (.int p2), .val (.int p3), .val (.int p4), .val (.int b), .val (.ref b2), .val (.ref b14), .val (.int (Int32.ofNat f)), .val (.int (Int32.ofNat ct)), .val (.int sn), .val (.ref b26), .unset, .unset, .unset] [(.int (0 : Int32)), (.ref b26)]))
  refine Gl.st (fun _ k => XS.iload X26.here hx rfl (hb hby at_168) rfl k) ?_
  show Gl p e below P (T26.setTop (mkF m 170 #[.val (.int p1), .val (.int p2), .val (.int p3), .val (.int p4), .val (.int b), .val (.ref b2), .val (.ref b14), .val (.int (Int32.ofNat f)), .val (.int (Int32.ofNat ct)), .val (.int sn), .val (.ref b26), .unset, .unset, .unset] [(.int sn), (.int (0 : Int32)), (.ref b26)]))
  obtain ⟨c27, Ar27, q27, S27, M27, H27, U27⟩ := id V_b26
  obtain ⟨T28, h28, X28, e28, W28, st28⟩ := stI X26 hx hZ e26 Ar27 (j := (0 : Int32)) (inb_of S27 ⟨(by decide : ¬ ((0 : Int32) < (0 : Int32))), (by decide : (0 : Int32) < (4 : Int32))⟩) (g := (mkF m 170 #[.val (.int p1), .val (.int p2), .val (.int p3), .val (.int p4), .val (.int b), .val (.ref b2), .val (.ref b14), .val (.int (Int32.ofNat f)), .val (.int (Int32.ofNat ct)), .val (.int sn), .val (.ref b26), .unset, .unset, .unset] [(.int sn), (.int (0 : Int32)), (.ref b26)])) rfl rfl (hb hby at_170)
  refine Gl.st st28 ?_
  have Z0_v28 : n0 ≤ h28.size := Nat.le_trans Z0_v26 (Keep.of_wr W28).1
  have V_b2_13_v28 : Arv Z h28 b2 k2 .int (4 : Int32) [(.int r0), (.int r1), (.int r2), (.int r3)] (.int (0 : Int32)) := V_b2_13_v26.other W28 ne_b2_b26
  have V_b14_25_v28 : Arv Z h28 b14 k14 .int (4 : Int32) [(.int o0), (.int o1), (.int o2), (.int o3)] (.int (0 : Int32)) := V_b14_25_v26.other W28 ne_b14_b26
  have V_b26_28 : Arv Z h28 b26 k26 .int (4 : Int32) [(.int sn), (.int (0 : Int32)), (.int (0 : Int32)), (.int (0 : Int32))] (.int (0 : Int32)) := Arv.set Ar27 q27 S27 M27 H27 U27 rfl W28 0 rfl (Nat.le_of_ble_eq_true rfl)
  have N28 := Fr.snoc X28 N25 g_b26
  show Gl p e below P (T28.setTop (mkF m 171 #[.val (.int p1), .val (.int p2), .val (.int p3), .val (.int p4), .val (.int b), .val (.ref b2), .val (.ref b14), .val (.int (Int32.ofNat f)), .val (.int (Int32.ofNat ct)), .val (.int sn), .val (.ref b26), .unset, .unset, .unset] []))
  refine Gl.st (fun _ k => XS.aload X28.here hx rfl (hb hby at_171) rfl rfl k) ?_
  show Gl p e below P (T28.setTop (mkF m 173 #[.val (.int p1), .val (.int p2), .val (.int p3), .val (.int p4), .val (.int b), .val (.ref b2), .val (.ref b14), .val (.int (Int32.ofNat f)), .val (.int (Int32.ofNat ct)), .val (.int sn), .val (.ref b26), .unset, .unset, .unset] [(.ref b26)]))
  refine Gl.st (fun _ k => XS.iconst X28.here hx rfl (hb hby at_173) k) ?_
  show Gl p e below P (T28.setTop (mkF m 174 #[.val (.int p1), .val (.int p2), .val (.int p3), .val (.int p4), .val (.int b), .val (.ref b2), .val (.ref b14), .val (.int (Int32.ofNat f)), .val (.int (Int32.ofNat ct)), .val (.int sn), .val (.ref b26), .unset, .unset, .unset] [(.int (1 : Int32)), (.ref b26)]))
  refine Gl.st (fun _ k => XS.iload X28.here hx rfl (hb hby at_174) rfl k) ?_
  show Gl p e below P (T28.setTop (mkF m 176 #[.val (.int p1), .val (.int p2), .val (.int p3), .val (.int p4), .val (.int b), .val (.ref b2), .val (.ref b14), .val (.int (Int32.ofNat f)), .val (.int (Int32.ofNat ct)), .val (.int sn), .val (.ref b26), .unset, .unset, .unset] [(.int sn), (.int (1 : Int32)), (.ref b26)]))
  obtain ⟨c29, Ar29, q29, S29, M29, H29, U29⟩ := id V_b26_28
  obtain ⟨T30, h30, X30, e30, W30, st30⟩ := stI X28 hx hZ e28 Ar29 (j := (1 : Int32)) (inb_of S29 ⟨(by decide : ¬ ((1 : Int32) < (0 : Int32))), (by decide : (1 : Int32) < (4 : Int32))⟩) (g := (mkF m 176 #[.val (.int p1), .val (.int p2), .val (.int p3), .val (.int p4), .val (.int b), .val (.ref b2), .val (.ref b14), .val (.int (Int32.ofNat f)), .val (.int (Int32.ofNat ct)), .val (.int sn), .val (.ref b26), .unset, .unset, .unset] [(.int sn), (.int (1 : Int32)), (.ref b26)])) rfl rfl (hb hby at_176)
  refine Gl.st st30 ?_
  have Z0_v30 : n0 ≤ h30.size := Nat.le_trans Z0_v28 (Keep.of_wr W30).1
  have V_b2_13_v30 : Arv Z h30 b2 k2 .int (4 : Int32) [(.int r0), (.int r1), (.int r2), (.int r3)] (.int (0 : Int32)) := V_b2_13_v28.other W30 ne_b2_b26
  have V_b14_25_v30 : Arv Z h30 b14 k14 .int (4 : Int32) [(.int o0), (.int o1), (.int o2), (.int o3)] (.int (0 : Int32)) := V_b14_25_v28.other W30 ne_b14_b26
  have V_b26_30 : Arv Z h30 b26 k26 .int (4 : Int32) [(.int sn), (.int sn), (.int (0 : Int32)), (.int (0 : Int32))] (.int (0 : Int32)) := Arv.set Ar29 q29 S29 M29 H29 U29 rfl W30 1 rfl (Nat.le_of_ble_eq_true rfl)
  have N30 := Fr.snoc X30 N28 g_b26
  show Gl p e below P (T30.setTop (mkF m 177 #[.val (.int p1), .val (.int p2), .val (.int p3), .val (.int p4), .val (.int b), .val (.ref b2), .val (.ref b14), .val (.int (Int32.ofNat f)), .val (.int (Int32.ofNat ct)), .val (.int sn), .val (.ref b26), .unset, .unset, .unset] []))
  refine Gl.st (fun _ k => XS.aload X30.here hx rfl (hb hby at_177) rfl rfl k) ?_
  show Gl p e below P (T30.setTop (mkF m 179 #[.val (.int p1), .val (.int p2), .val (.int p3), .val (.int p4), .val (.int b), .val (.ref b2), .val (.ref b14), .val (.int (Int32.ofNat f)), .val (.int (Int32.ofNat ct)), .val (.int sn), .val (.ref b26), .unset, .unset, .unset] [(.ref b26)]))
  refine Gl.st (fun _ k => XS.iconst X30.here hx rfl (hb hby at_179) k) ?_
  show Gl p e below P (T30.setTop (mkF m 180 #[.val (.int p1), .val (.int p2), .val (.int p3), .val (.int p4), .val (.int b), .val (.ref b2), .val (.ref b14), .val (.int (Int32.ofNat f)), .val (.int (Int32.ofNat ct)), .val (.int sn), .val (.ref b26), .unset, .unset, .unset] [(.int (2 : Int32)), (.ref b26)]))
  refine Gl.st (fun _ k => XS.iload X30.here hx rfl (hb hby at_180) rfl k) ?_
  show Gl p e below P (T30.setTop (mkF m 182 #[.val (.int p1), .val (.int p2), .val (.int p3), .val (.int p4), .val (.int b), .val (.ref b2), .val (.ref b14), .val (.int (Int32.ofNat f)), .val (.int (Int32.ofNat ct)), .val (.int sn), .val (.ref b26), .unset, .unset, .unset] [(.int sn), (.int (2 : Int32)), (.ref b26)]))
  obtain ⟨c31, Ar31, q31, S31, M31, H31, U31⟩ := id V_b26_30
  obtain ⟨T32, h32, X32, e32, W32, st32⟩ := stI X30 hx hZ e30 Ar31 (j := (2 : Int32)) (inb_of S31 ⟨(by decide : ¬ ((2 : Int32) < (0 : Int32))), (by decide : (2 : Int32) < (4 : Int32))⟩) (g := (mkF m 182 #[.val (.int p1), .val (.int p2), .val (.int p3), .val (.int p4), .val (.int b), .val (.ref b2), .val (.ref b14), .val (.int (Int32.ofNat f)), .val (.int (Int32.ofNat ct)), .val (.int sn), .val (.ref b26), .unset, .unset, .unset] [(.int sn), (.int (2 : Int32)), (.ref b26)])) rfl rfl (hb hby at_182)
  refine Gl.st st32 ?_
  have Z0_v32 : n0 ≤ h32.size := Nat.le_trans Z0_v30 (Keep.of_wr W32).1
  have V_b2_13_v32 : Arv Z h32 b2 k2 .int (4 : Int32) [(.int r0), (.int r1), (.int r2), (.int r3)] (.int (0 : Int32)) := V_b2_13_v30.other W32 ne_b2_b26
  have V_b14_25_v32 : Arv Z h32 b14 k14 .int (4 : Int32) [(.int o0), (.int o1), (.int o2), (.int o3)] (.int (0 : Int32)) := V_b14_25_v30.other W32 ne_b14_b26
  have V_b26_32 : Arv Z h32 b26 k26 .int (4 : Int32) [(.int sn), (.int sn), (.int sn), (.int (0 : Int32))] (.int (0 : Int32)) := Arv.set Ar31 q31 S31 M31 H31 U31 rfl W32 2 rfl (Nat.le_of_ble_eq_true rfl)
  have N32 := Fr.snoc X32 N30 g_b26
  show Gl p e below P (T32.setTop (mkF m 183 #[.val (.int p1), .val (.int p2), .val (.int p3), .val (.int p4), .val (.int b), .val (.ref b2), .val (.ref b14), .val (.int (Int32.ofNat f)), .val (.int (Int32.ofNat ct)), .val (.int sn), .val (.ref b26), .unset, .unset, .unset] []))
  refine Gl.st (fun _ k => XS.aload X32.here hx rfl (hb hby at_183) rfl rfl k) ?_
  show Gl p e below P (T32.setTop (mkF m 185 #[.val (.int p1), .val (.int p2), .val (.int p3), .val (.int p4), .val (.int b), .val (.ref b2), .val (.ref b14), .val (.int (Int32.ofNat f)), .val (.int (Int32.ofNat ct)), .val (.int sn), .val (.ref b26), .unset, .unset, .unset] [(.ref b26)]))
  refine Gl.st (fun _ k => XS.iconst X32.here hx rfl (hb hby at_185) k) ?_
  show Gl p e below P (T32.setTop (mkF m 186 #[.val (.int p1), .val (.int p2), .val (.int p3), .val (.int p4), .val (.int b), .val (.ref b2), .val (.ref b14), .val (.int (Int32.ofNat f)), .val (.int (Int32.ofNat ct)), .val (.int sn), .val (.ref b26), .unset, .unset, .unset] [(.int (3 : Int32)), (.ref b26)]))
  refine Gl.st (fun _ k => XS.iload X32.here hx rfl (hb hby at_186) rfl k) ?_
  show Gl p e below P (T32.setTop (mkF m 188 #[.val (.int p1), .val (.int p2), .val (.int p3), .val (.int p4), .val (.int b), .val (.ref b2), .val (.ref b14), .val (.int (Int32.ofNat f)), .val (.int (Int32.ofNat ct)), .val (.int sn), .val (.ref b26), .unset, .unset, .unset] [(.int sn), (.int (3 : Int32)), (.ref b26)]))
  obtain ⟨c33, Ar33, q33, S33, M33, H33, U33⟩ := id V_b26_32
  obtain ⟨T34, h34, X34, e34, W34, st34⟩ := stI X32 hx hZ e32 Ar33 (j := (3 : Int32)) (inb_of S33 ⟨(by decide : ¬ ((3 : Int32) < (0 : Int32))), (by decide : (3 : Int32) < (4 : Int32))⟩) (g := (mkF m 188 #[.val (.int p1), .val (.int p2), .val (.int p3), .val (.int p4), .val (.int b), .val (.ref b2), .val (.ref b14), .val (.int (Int32.ofNat f)), .val (.int (Int32.ofNat ct)), .val (.int sn), .val (.ref b26), .unset, .unset, .unset] [(.int sn), (.int (3 : Int32)), (.ref b26)])) rfl rfl (hb hby at_188)
  refine Gl.st st34 ?_
  have Z0_v34 : n0 ≤ h34.size := Nat.le_trans Z0_v32 (Keep.of_wr W34).1
  have V_b2_13_v34 : Arv Z h34 b2 k2 .int (4 : Int32) [(.int r0), (.int r1), (.int r2), (.int r3)] (.int (0 : Int32)) := V_b2_13_v32.other W34 ne_b2_b26
  have V_b14_25_v34 : Arv Z h34 b14 k14 .int (4 : Int32) [(.int o0), (.int o1), (.int o2), (.int o3)] (.int (0 : Int32)) := V_b14_25_v32.other W34 ne_b14_b26
  have V_b26_34 : Arv Z h34 b26 k26 .int (4 : Int32) [(.int sn), (.int sn), (.int sn), (.int sn)] (.int (0 : Int32)) := Arv.set Ar33 q33 S33 M33 H33 U33 rfl W34 3 rfl (Nat.le_of_ble_eq_true rfl)
  have N34 := Fr.snoc X34 N32 g_b26
  show Gl p e below P (T34.setTop (mkF m 189 #[.val (.int p1), .val (.int p2), .val (.int p3), .val (.int p4), .val (.int b), .val (.ref b2), .val (.ref b14), .val (.int (Int32.ofNat f)), .val (.int (Int32.ofNat ct)), .val (.int sn), .val (.ref b26), .unset, .unset, .unset] []))
  refine Gl.st (fun _ k => XS.aload X34.here hx rfl (hb hby at_189) rfl rfl k) ?_
  show Gl p e below P (T34.setTop (mkF m 191 #[.val (.int p1), .val (.int p2), .val (.int p3), .val (.int p4), .val (.int b), .val (.ref b2), .val (.ref b14), .val (.int (Int32.ofNat f)), .val (.int (Int32.ofNat ct)), .val (.int sn), .val (.ref b26), .unset, .unset, .unset] [(.ref b2)]))
  refine Gl.st (fun _ k => XS.iload X34.here hx rfl (hb hby at_191) rfl k) ?_
  show Gl p e below P (T34.setTop (mkF m 193 #[.val (.int p1), .val (.int p2), .val (.int p3), .val (.int p4), .val (.int b), .val (.ref b2), .val (.ref b14), .val (.int (Int32.ofNat f)), .val (.int (Int32.ofNat ct)), .val (.int sn), .val (.ref b26), .unset, .unset, .unset] [(.int (Int32.ofNat f)), (.ref b2)]))
  refine Gl.st (fun _ k => XS.aload X34.here hx rfl (hb hby at_193) rfl rfl k) ?_
  show Gl p e below P (T34.setTop (mkF m 195 #[.val (.int p1), .val (.int p2), .val (.int p3), .val (.int p4), .val (.int b), .val (.ref b2), .val (.ref b14), .val (.int (Int32.ofNat f)), .val (.int (Int32.ofNat ct)), .val (.int sn), .val (.ref b26), .unset, .unset, .unset] [(.ref b14), (.int (Int32.ofNat f)), (.ref b2)]))
  refine Gl.st (fun _ k => XS.iload X34.here hx rfl (hb hby at_195) rfl k) ?_
  show Gl p e below P (T34.setTop (mkF m 197 #[.val (.int p1), .val (.int p2), .val (.int p3), .val (.int p4), .val (.int b), .val (.ref b2), .val (.ref b14), .val (.int (Int32.ofNat f)), .val (.int (Int32.ofNat ct)), .val (.int sn), .val (.ref b26), .unset, .unset, .unset] [(.int (Int32.ofNat ct)), (.ref b14), (.int (Int32.ofNat f)), (.ref b2)]))
  refine Gl.st (fun _ k => XS.aload X34.here hx rfl (hb hby at_197) rfl rfl k) ?_
  show Gl p e below P (T34.setTop (mkF m 199 #[.val (.int p1), .val (.int p2), .val (.int p3), .val (.int p4), .val (.int b), .val (.ref b2), .val (.ref b14), .val (.int (Int32.ofNat f)), .val (.int (Int32.ofNat ct)), .val (.int sn), .val (.ref b26), .unset, .unset, .unset] [(.ref b26), (.int (Int32.ofNat ct)), (.ref b14), (.int (Int32.ofNat f)), (.ref b2)]))
  have VV_b2 : Arv Z h34 b2 k2 .int (4 : Int32) (own_v4 (own_f4 r0 r1 r2 r3)) (.int (0 : Int32)) := V_b2_13_v34
  have VV_b14 : Arv Z h34 b14 k14 .int (4 : Int32) (own_v4 (own_f4 o0 o1 o2 o3)) (.int (0 : Int32)) := V_b14_25_v34
  have VV_b26 : Arv Z h34 b26 k26 .int (4 : Int32) (own_v4 (fun _ => sn)) (.int (0 : Int32)) := V_b26_34
  obtain ⟨Rf, hRf⟩ : ∃ R, R = (own_f4 r0 r1 r2 r3) := ⟨_, rfl⟩
  obtain ⟨Of, hOf⟩ : ∃ R, R = (own_f4 o0 o1 o2 o3) := ⟨_, rfl⟩
  have eR0 : Rf 0 = r0 := by rw [hRf]; rfl
  have eR1 : Rf 1 = r1 := by rw [hRf]; rfl
  have eR2 : Rf 2 = r2 := by rw [hRf]; rfl
  have eR3 : Rf 3 = r3 := by rw [hRf]; rfl
  have upR : own_up4 Rf := by rw [hRf]; exact own_rise hbd hr0 hr1 hr2 hr3
  have upO : own_up4 Of := by rw [hOf]; exact own_rise hbd ho0 ho1 ho2 ho3
  rw [← hRf] at VV_b2
  rw [← hOf] at VV_b14
  obtain ⟨_, _, ⟨T35, L35, k35, n35⟩, -, X35, ⟨Lc35, hQ35, l35, y35, z35⟩, st35⟩ := Jvm.LawKit.callS X34 hx (y := (⟨"com/example/vendace/vendace/service/SortedArrays", "intersect", "([II[II[I)I"⟩ : MethodName)) hown (mvT hZ (hw _ (List.mem_of_getElem? (i := 6) rfl))) (mvT hZ (hw _ (List.mem_of_getElem? (i := 7) rfl))) (mvT hZ (hw _ (List.mem_of_getElem? (i := 8) rfl))) (mvT hZ (hw _ (List.mem_of_getElem? (i := 9) rfl))) (by decide) (backOf (W := 0) (rm25 l Z a0 hw [] b2 k2 Rf f b14 k14 Of ct b26 k26 (fun _ => sn) h34 n0 Z0_v34 VV_b2 VV_b14 VV_b26 hf hct upR upO ne_b2_b26 ne_b14_b26 g_b26) hZ (hw _ (List.mem_of_getElem? (i := 9) rfl)) (hw _ (List.mem_of_getElem? (i := 8) rfl)) (by decide) (by decide)) (g := (mkF m 199 #[.val (.int p1), .val (.int p2), .val (.int p3), .val (.int p4), .val (.int b), .val (.ref b2), .val (.ref b14), .val (.int (Int32.ofNat f)), .val (.int (Int32.ofNat ct)), .val (.int sn), .val (.ref b26), .unset, .unset, .unset] [(.ref b26), (.int (Int32.ofNat ct)), (.ref b14), (.int (Int32.ofNat f)), (.ref b2)])) rfl (by rw [hml]; rfl) (argsL := [(.ref b2), (.int (Int32.ofNat f)), (.ref b14), (.int (Int32.ofNat ct)), (.ref b26)]) (rest := []) (lenOf pd_4 rfl) rfl (by show 2 * 0 + _ ≤ _; exact Nat.le_of_eq rfl) (hb hby at_199) (fun _ _ => ⟨rfl, e34, (by decide : 3 + 0 ≤ _), (by decide : 12 + 0 ≤ _)⟩)
  dsimp only [Pt.U, Pt.locs, Pt.cells, Pt.slots] at X35 l35 y35 z35 st35 hQ35
  subst l35 y35 z35
  obtain ⟨rfl, N35q, K35, VN35⟩ := hQ35
  have N35 := Fr.app N34 N35q
  have Z0_v35 : n0 ≤ T35.heap.size := Nat.le_trans Z0_v34 K35.1
  have VV_b2_v35 : Arv Z T35.heap b2 k2 .int (4 : Int32) (own_v4 Rf) (.int (0 : Int32)) := VV_b2.keep K35 (ninS ne_b2_b26 nin0)
  have VV_b14_v35 : Arv Z T35.heap b14 k14 .int (4 : Int32) (own_v4 Of) (.int (0 : Int32)) := VV_b14.keep K35 (ninS ne_b14_b26 nin0)
  refine Gl.st st35 ?_
  show Gl p e below P (T35.setTop (mkF m 202 #[.val (.int p1), .val (.int p2), .val (.int p3), .val (.int p4), .val (.int b), .val (.ref b2), .val (.ref b14), .val (.int (Int32.ofNat f)), .val (.int (Int32.ofNat ct)), .val (.int sn), .val (.ref b26), .unset, .unset, .unset] [(.int (Int32.ofNat (own_com Rf Of f 4 0 ct).length))]))
  refine Gl.st (fun _ k => XS.istore X35.here hx rfl (hb hby at_202) rfl (l' := #[.val (.int p1), .val (.int p2), .val (.int p3), .val (.int p4), .val (.int b), .val (.ref b2), .val (.ref b14), .val (.int (Int32.ofNat f)), .val (.int (Int32.ofNat ct)), .val (.int sn), .val (.ref b26), .val (.int (Int32.ofNat (own_com Rf Of f 4 0 ct).length)), .unset, .unset]) rfl k) ?_
  show Gl p e below P (T35.setTop (mkF m 204 #[.val (.int p1), .val (.int p2), .val (.int p3), .val (.int p4), .val (.int b), .val (.ref b2), .val (.ref b14), .val (.int (Int32.ofNat f)), .val (.int (Int32.ofNat ct)), .val (.int sn), .val (.ref b26), .val (.int (Int32.ofNat (own_com Rf Of f 4 0 ct).length)), .unset, .unset] []))
  refine Gl.st (fun _ k => XS.iconst X35.here hx rfl (hb hby at_204) k) ?_
  show Gl p e below P (T35.setTop (mkF m 205 #[.val (.int p1), .val (.int p2), .val (.int p3), .val (.int p4), .val (.int b), .val (.ref b2), .val (.ref b14), .val (.int (Int32.ofNat f)), .val (.int (Int32.ofNat ct)), .val (.int sn), .val (.ref b26), .val (.int (Int32.ofNat (own_com Rf Of f 4 0 ct).length)), .unset, .unset] [(.int (4 : Int32))]))
  obtain ⟨T36, h36, k36, X36, e36, E36, A36, st36⟩ := newP X35 hx hZ (hw _ (List.mem_of_getElem? (i := 5) rfl)) rfl (g := (mkF m 205 #[.val (.int p1), .val (.int p2), .val (.int p3), .val (.int p4), .val (.int b), .val (.ref b2), .val (.ref b14), .val (.int (Int32.ofNat f)), .val (.int (Int32.ofNat ct)), .val (.int sn), .val (.ref b26), .val (.int (Int32.ofNat (own_com Rf Of f 4 0 ct).length)), .unset, .unset] [(.int (4 : Int32))])) rfl (hb hby at_205) rfl (by decide) (cap := 4) (by decide) (by decide) (by decide) (by decide)
  obtain ⟨b36, g36⟩ : ∃ z, z = T35.heap.size := ⟨_, rfl⟩
  rw [← g36] at A36 st36
  refine Gl.st st36 ?_
  have g_b36 : n0 ≤ b36 := Nat.le_trans Z0_v35 (Nat.le_of_eq g36.symm)
  have ne_b2_b36 : b2 ≠ b36 := Nat.ne_of_lt (Nat.lt_of_lt_of_le VV_b2_v35.lt (Nat.le_of_eq g36.symm))
  have ne_b14_b36 : b14 ≠ b36 := Nat.ne_of_lt (Nat.lt_of_lt_of_le VV_b14_v35.lt (Nat.le_of_eq g36.symm))
  have ne_b26_b36 : b26 ≠ b36 := Nat.ne_of_lt (Nat.lt_of_lt_of_le VN35.lt (Nat.le_of_eq g36.symm))
  have Z0_v36 : n0 ≤ h36.size := Nat.le_trans Z0_v35 E36.1
  have VV_b2_v36 : Arv Z h36 b2 k2 .int (4 : Int32) (own_v4 Rf) (.int (0 : Int32)) := VV_b2_v35.ext E36
  have VV_b14_v36 : Arv Z h36 b14 k14 .int (4 : Int32) (own_v4 Of) (.int (0 : Int32)) := VV_b14_v35.ext E36
  have VN35_v36 : Arv Z h36 b26 k26 .int (4 : Int32) (own_v4 (own_into (own_com Rf Of f 4 0 ct) (fun _ => sn))) (.int (0 : Int32)) := VN35.ext E36
  have V_b36 : Arv Z h36 b36 k36 .int (4 : Int32) [(.int (0 : Int32)), (.int (0 : Int32)), (.int (0 : Int32)), (.int (0 : Int32))] (.int (0 : Int32)) := (Arv.new A36 (by decide)).pad (pad_rep [] (.int (0 : Int32)) 4)
  show Gl p e below P (T36.setTop (mkF m 207 #[.val (.int p1), .val (.int p2), .val (.int p3), .val (.int p4), .val (.int b), .val (.ref b2), .val (.ref b14), .val (.int (Int32.ofNat f)), .val (.int (Int32.ofNat ct)), .val (.int sn), .val (.ref b26), .val (.int (Int32.ofNat (own_com Rf Of f 4 0 ct).length)), .unset, .unset] [(.ref b36)]))
  refine Gl.st (fun _ k => XS.astore X36.here hx rfl (hb hby at_207) rfl rfl (l' := #[.val (.int p1), .val (.int p2), .val (.int p3), .val (.int p4), .val (.int b), .val (.ref b2), .val (.ref b14), .val (.int (Int32.ofNat f)), .val (.int (Int32.ofNat ct)), .val (.int sn), .val (.ref b26), .val (.int (Int32.ofNat (own_com Rf Of f 4 0 ct).length)), .val (.ref b36), .unset]) rfl k) ?_
  show Gl p e below P (T36.setTop (mkF m 209 #[.val (.int p1), .val (.int p2), .val (.int p3), .val (.int p4), .val (.int b), .val (.ref b2), .val (.ref b14), .val (.int (Int32.ofNat f)), .val (.int (Int32.ofNat ct)), .val (.int sn), .val (.ref b26), .val (.int (Int32.ofNat (own_com Rf Of f 4 0 ct).length)), .val (.ref b36), .unset] []))
  refine Gl.st (fun _ k => XS.iconst X36.here hx rfl (hb hby at_209) k) ?_
  show Gl p e below P (T36.setTop (mkF m 210 #[.val (.int p1), .val (.int p2), .val (.int p3), .val (.int p4), .val (.int b), .val (.ref b2), .val (.ref b14), .val (.int (Int32.ofNat f)), .val (.int (Int32.ofNat ct)), .val (.int sn), .val (.ref b26), .val (.int (Int32.ofNat (own_com Rf Of f 4 0 ct).length)), .val (.ref b36), .unset] [(.int (0 : Int32))]))
  refine Gl.st (fun _ k => XS.istore X36.here hx rfl (hb hby at_210) rfl (l' := #[.val (.int p1), .val (.int p2), .val (.int p3), .val (.int p4), .val (.int b), .val (.ref b2), .val (.ref b14), .val (.int (Int32.ofNat f)), .val (.int (Int32.ofNat ct)), .val (.int sn), .val (.ref b26), .val (.int (Int32.ofNat (own_com Rf Of f 4 0 ct).length)), .val (.ref b36), .val (.int (0 : Int32))]) rfl k) ?_
  show Gl p e below P (T36.setTop (mkF m 212 #[.val (.int p1), .val (.int p2), .val (.int p3), .val (.int p4), .val (.int b), .val (.ref b2), .val (.ref b14), .val (.int (Int32.ofNat f)), .val (.int (Int32.ofNat ct)), .val (.int sn), .val (.ref b26), .val (.int (Int32.ofNat (own_com Rf Of f 4 0 ct).length)), .val (.ref b36), .val (.int (0 : Int32))] []))
  have VE : Arv Z h36 b36 k36 .int (4 : Int32) (own_v4 (own_into (own_com Rf Of f 0 0 ct) (fun _ => (0 : Int32)))) (.int (0 : Int32)) := V_b36
  show Gl p e below P (T36.setTop (mkF m 212 #[.val (.int p1), .val (.int p2), .val (.int p3), .val (.int p4), .val (.int b), .val (.ref b2), .val (.ref b14), .val (.int (Int32.ofNat f)), .val (.int (Int32.ofNat ct)), .val (.int sn), .val (.ref b26), .val (.int (Int32.ofNat (own_com Rf Of f 4 0 ct).length)), .val (.ref b36), .val (.int (Int32.ofNat (own_com Rf Of f 0 0 ct).length))] []))
  have J4 : ∀ (T37 : State) (locs37 : List Loc) (h37 : Heap), Stand p l e room_1 s m #[(.int p1), (.int p2), (.int p3), (.int p4)] below meth c T37 locs37 4 16 → T37.heap = h37 → Fr n0 locs37 → n0 ≤ h37.size → Arv Z h37 b2 k2 .int (4 : Int32) (own_v4 Rf) (.int (0 : Int32)) → Arv Z h37 b14 k14 .int (4 : Int32) (own_v4 Of) (.int (0 : Int32)) → Arv Z h37 b26 k26 .int (4 : Int32) (own_v4 (own_into (own_com Rf Of f 4 0 ct) (fun _ => sn))) (.int (0 : Int32)) → Arv Z h37 b36 k36 .int (4 : Int32) (own_v4 (own_into (own_com Rf Of f 4 0 ct) (fun _ => (0 : Int32)))) (.int (0 : Int32)) → Gl p e below P (T37.setTop (mkF m 339 #[.val (.int p1), .val (.int p2), .val (.int p3), .val (.int p4), .val (.int b), .val (.ref b2), .val (.ref b14), .val (.int (Int32.ofNat f)), .val (.int (Int32.ofNat ct)), .val (.int sn), .val (.ref b26), .val (.int (Int32.ofNat (own_com Rf Of f 4 0 ct).length)), .val (.ref b36), .val (.int (Int32.ofNat (own_com Rf Of f 4 0 ct).length))] [])) := by
    intro T37 locs37 h37 X37 e37 N37 J37_Z J37_V_b2 J37_V_b14 J37_V_b26 J37_V_b36
    show Gl p e below P (T37.setTop (mkF m 339 #[.val (.int p1), .val (.int p2), .val (.int p3), .val (.int p4), .val (.int b), .val (.ref b2), .val (.ref b14), .val (.int (Int32.ofNat f)), .val (.int (Int32.ofNat ct)), .val (.int sn), .val (.ref b26), .val (.int (Int32.ofNat (own_com Rf Of f 4 0 ct).length)), .val (.ref b36), .val (.int (Int32.ofNat (own_com Rf Of f 4 0 ct).length))] []))
    refine Gl.st (fun _ k => XS.iload X37.here hx rfl (hb hby at_339) rfl k) ?_
    show Gl p e below P (T37.setTop (mkF m 341 #[.val (.int p1), .val (.int p2), .val (.int p3), .val (.int p4), .val (.int b), .val (.ref b2), .val (.ref b14), .val (.int (Int32.ofNat f)), .val (.int (Int32.ofNat ct)), .val (.int sn), .val (.ref b26), .val (.int (Int32.ofNat (own_com Rf Of f 4 0 ct).length)), .val (.ref b36), .val (.int (Int32.ofNat (own_com Rf Of f 4 0 ct).length))] [(.int (Int32.ofNat (own_com Rf Of f 4 0 ct).length))]))
    refine Gl.st (fun _ k => XS.iload X37.here hx rfl (hb hby at_341) rfl k) ?_
    show Gl p e below P (T37.setTop (mkF m 343 #[.val (.int p1), .val (.int p2), .val (.int p3), .val (.int p4), .val (.int b), .val (.ref b2), .val (.ref b14), .val (.int (Int32.ofNat f)), .val (.int (Int32.ofNat ct)), .val (.int sn), .val (.ref b26), .val (.int (Int32.ofNat (own_com Rf Of f 4 0 ct).length)), .val (.ref b36), .val (.int (Int32.ofNat (own_com Rf Of f 4 0 ct).length))] [(.int (Int32.ofNat (own_com Rf Of f 4 0 ct).length)), (.int (Int32.ofNat (own_com Rf Of f 4 0 ct).length))]))
    refine Gl.st (fun _ k => XS.icmpYes X37.here hx rfl (pc0 := 343) (pc' := 348) rfl (hb hby at_343) rfl (teq (rfl : (Int32.ofNat (own_com Rf Of f 4 0 ct).length) = (Int32.ofNat (own_com Rf Of f 4 0 ct).length))).1 (by decide) (by decide) k) ?_
    show Gl p e below P (T37.setTop (mkF m 348 #[.val (.int p1), .val (.int p2), .val (.int p3), .val (.int p4), .val (.int b), .val (.ref b2), .val (.ref b14), .val (.int (Int32.ofNat f)), .val (.int (Int32.ofNat ct)), .val (.int sn), .val (.ref b26), .val (.int (Int32.ofNat (own_com Rf Of f 4 0 ct).length)), .val (.ref b36), .val (.int (Int32.ofNat (own_com Rf Of f 4 0 ct).length))] []))
    refine Gl.st (fun _ k => XS.aload X37.here hx rfl (hb hby at_348) rfl rfl k) ?_
    show Gl p e below P (T37.setTop (mkF m 350 #[.val (.int p1), .val (.int p2), .val (.int p3), .val (.int p4), .val (.int b), .val (.ref b2), .val (.ref b14), .val (.int (Int32.ofNat f)), .val (.int (Int32.ofNat ct)), .val (.int sn), .val (.ref b26), .val (.int (Int32.ofNat (own_com Rf Of f 4 0 ct).length)), .val (.ref b36), .val (.int (Int32.ofNat (own_com Rf Of f 4 0 ct).length))] [(.ref b26)]))
    refine Gl.st (fun _ k => XS.aload X37.here hx rfl (hb hby at_350) rfl rfl k) ?_
    show Gl p e below P (T37.setTop (mkF m 352 #[.val (.int p1), .val (.int p2), .val (.int p3), .val (.int p4), .val (.int b), .val (.ref b2), .val (.ref b14), .val (.int (Int32.ofNat f)), .val (.int (Int32.ofNat ct)), .val (.int sn), .val (.ref b26), .val (.int (Int32.ofNat (own_com Rf Of f 4 0 ct).length)), .val (.ref b36), .val (.int (Int32.ofNat (own_com Rf Of f 4 0 ct).length))] [(.ref b36), (.ref b26)]))
    refine Gl.st (fun _ k => XS.iload X37.here hx rfl (hb hby at_352) rfl k) ?_
    show Gl p e below P (T37.setTop (mkF m 354 #[.val (.int p1), .val (.int p2), .val (.int p3), .val (.int p4), .val (.int b), .val (.ref b2), .val (.ref b14), .val (.int (Int32.ofNat f)), .val (.int (Int32.ofNat ct)), .val (.int sn), .val (.ref b26), .val (.int (Int32.ofNat (own_com Rf Of f 4 0 ct).length)), .val (.ref b36), .val (.int (Int32.ofNat (own_com Rf Of f 4 0 ct).length))] [(.int (Int32.ofNat (own_com Rf Of f 4 0 ct).length)), (.ref b36), (.ref b26)]))
    refine Gl.st (fun _ k => XS.iconst X37.here hx rfl (hb hby at_354) k) ?_
    show Gl p e below P (T37.setTop (mkF m 355 #[.val (.int p1), .val (.int p2), .val (.int p3), .val (.int p4), .val (.int b), .val (.ref b2), .val (.ref b14), .val (.int (Int32.ofNat f)), .val (.int (Int32.ofNat ct)), .val (.int sn), .val (.ref b26), .val (.int (Int32.ofNat (own_com Rf Of f 4 0 ct).length)), .val (.ref b36), .val (.int (Int32.ofNat (own_com Rf Of f 4 0 ct).length))] [(.int (0 : Int32)), (.int (Int32.ofNat (own_com Rf Of f 4 0 ct).length)), (.ref b36), (.ref b26)]))
    refine Gl.st (fun _ k => XS.iload X37.here hx rfl (hb hby at_355) rfl k) ?_
    show Gl p e below P (T37.setTop (mkF m 357 #[.val (.int p1), .val (.int p2), .val (.int p3), .val (.int p4), .val (.int b), .val (.ref b2), .val (.ref b14), .val (.int (Int32.ofNat f)), .val (.int (Int32.ofNat ct)), .val (.int sn), .val (.ref b26), .val (.int (Int32.ofNat (own_com Rf Of f 4 0 ct).length)), .val (.ref b36), .val (.int (Int32.ofNat (own_com Rf Of f 4 0 ct).length))] [(.int sn), (.int (0 : Int32)), (.int (Int32.ofNat (own_com Rf Of f 4 0 ct).length)), (.ref b36), (.ref b26)]))
    have cl4 := own_com_len Rf Of f 4 0 ct
    obtain ⟨_, _, ⟨T38, L38, k38, n38⟩, -, X38, ⟨Lc38, hQ38, l38, y38, z38⟩, st38⟩ := Jvm.LawKit.callS X37 hx (y := (⟨"com/example/vendace/vendace/service/SortedArraysIntersectPinLaw", "slot", "([I[IIII)Z"⟩ : MethodName)) hown (mvT hZ (hw _ (List.mem_of_getElem? (i := 17) rfl))) (mvT hZ (hw _ (List.mem_of_getElem? (i := 18) rfl))) (mvT hZ (hw _ (List.mem_of_getElem? (i := 15) rfl))) (mvT hZ (hw _ (List.mem_of_getElem? (i := 19) rfl))) (by decide) (backOf (W := 0) (rm27 l Z a0 hw [] b26 k26 (own_into (own_com Rf Of f 4 0 ct) (fun _ => sn)) b36 k36 (own_into (own_com Rf Of f 4 0 ct) (fun _ => (0 : Int32))) (own_com Rf Of f 4 0 ct).length 0 sn h37 n0 J37_Z J37_V_b26 J37_V_b36 cl4 (by decide) (fun q => by simp [own_into, q]) (fun q => by simp [own_into, q])) hZ (hw _ (List.mem_of_getElem? (i := 19) rfl)) (hw _ (List.mem_of_getElem? (i := 15) rfl)) (by decide) (by decide)) (g := (mkF m 357 #[.val (.int p1), .val (.int p2), .val (.int p3), .val (.int p4), .val (.int b), .val (.ref b2), .val (.ref b14), .val (.int (Int32.ofNat f)), .val (.int (Int32.ofNat ct)), .val (.int sn), .val (.ref b26), .val (.int (Int32.ofNat (own_com Rf Of f 4 0 ct).length)), .val (.ref b36), .val (.int (Int32.ofNat (own_com Rf Of f 4 0 ct).length))] [(.int sn), (.int (0 : Int32)), (.int (Int32.ofNat (own_com Rf Of f 4 0 ct).length)), (.ref b36), (.ref b26)])) rfl (by rw [hml]; rfl) (argsL := [(.ref b26), (.ref b36), (.int (Int32.ofNat (own_com Rf Of f 4 0 ct).length)), (.int (0 : Int32)), (.int sn)]) (rest := []) (lenOf pd_5 rfl) rfl (by show 2 * 0 + _ ≤ _; exact Nat.le_of_eq rfl) (hb hby at_357) (fun _ _ => ⟨rfl, e37, (by decide : 4 + 0 ≤ _), (by decide : 16 + 0 ≤ _)⟩)
    dsimp only [Pt.U, Pt.locs, Pt.cells, Pt.slots] at X38 l38 y38 z38 st38 hQ38
    subst l38 y38 z38
    obtain ⟨rfl, N38q, e38⟩ := hQ38
    have N38 := Fr.app N37 N38q
    refine Gl.st st38 ?_
    show Gl p e below P (T38.setTop (mkF m 360 #[.val (.int p1), .val (.int p2), .val (.int p3), .val (.int p4), .val (.int b), .val (.ref b2), .val (.ref b14), .val (.int (Int32.ofNat f)), .val (.int (Int32.ofNat ct)), .val (.int sn), .val (.ref b26), .val (.int (Int32.ofNat (own_com Rf Of f 4 0 ct).length)), .val (.ref b36), .val (.int (Int32.ofNat (own_com Rf Of f 4 0 ct).length))] [(.int (1 : Int32))]))
    refine Gl.st (fun _ k => XS.ifNo X38.here hx rfl (hb hby at_360) rfl ((if0 _ _).trans (feq (by decide : ¬ ((1 : Int32) = (0 : Int32)))).1) k) ?_
    show Gl p e below P (T38.setTop (mkF m 363 #[.val (.int p1), .val (.int p2), .val (.int p3), .val (.int p4), .val (.int b), .val (.ref b2), .val (.ref b14), .val (.int (Int32.ofNat f)), .val (.int (Int32.ofNat ct)), .val (.int sn), .val (.ref b26), .val (.int (Int32.ofNat (own_com Rf Of f 4 0 ct).length)), .val (.ref b36), .val (.int (Int32.ofNat (own_com Rf Of f 4 0 ct).length))] []))
    refine Gl.st (fun _ k => XS.aload X38.here hx rfl (hb hby at_363) rfl rfl k) ?_
    show Gl p e below P (T38.setTop (mkF m 365 #[.val (.int p1), .val (.int p2), .val (.int p3), .val (.int p4), .val (.int b), .val (.ref b2), .val (.ref b14), .val (.int (Int32.ofNat f)), .val (.int (Int32.ofNat ct)), .val (.int sn), .val (.ref b26), .val (.int (Int32.ofNat (own_com Rf Of f 4 0 ct).length)), .val (.ref b36), .val (.int (Int32.ofNat (own_com Rf Of f 4 0 ct).length))] [(.ref b26)]))
    refine Gl.st (fun _ k => XS.aload X38.here hx rfl (hb hby at_365) rfl rfl k) ?_
    show Gl p e below P (T38.setTop (mkF m 367 #[.val (.int p1), .val (.int p2), .val (.int p3), .val (.int p4), .val (.int b), .val (.ref b2), .val (.ref b14), .val (.int (Int32.ofNat f)), .val (.int (Int32.ofNat ct)), .val (.int sn), .val (.ref b26), .val (.int (Int32.ofNat (own_com Rf Of f 4 0 ct).length)), .val (.ref b36), .val (.int (Int32.ofNat (own_com Rf Of f 4 0 ct).length))] [(.ref b36), (.ref b26)]))
    refine Gl.st (fun _ k => XS.iload X38.here hx rfl (hb hby at_367) rfl k) ?_
    show Gl p e below P (T38.setTop (mkF m 369 #[.val (.int p1), .val (.int p2), .val (.int p3), .val (.int p4), .val (.int b), .val (.ref b2), .val (.ref b14), .val (.int (Int32.ofNat f)), .val (.int (Int32.ofNat ct)), .val (.int sn), .val (.ref b26), .val (.int (Int32.ofNat (own_com Rf Of f 4 0 ct).length)), .val (.ref b36), .val (.int (Int32.ofNat (own_com Rf Of f 4 0 ct).length))] [(.int (Int32.ofNat (own_com Rf Of f 4 0 ct).length)), (.ref b36), (.ref b26)]))
    refine Gl.st (fun _ k => XS.iconst X38.here hx rfl (hb hby at_369) k) ?_
    show Gl p e below P (T38.setTop (mkF m 370 #[.val (.int p1), .val (.int p2), .val (.int p3), .val (.int p4), .val (.int b), .val (.ref b2), .val (.ref b14), .val (.int (Int32.ofNat f)), .val (.int (Int32.ofNat ct)), .val (.int sn), .val (.ref b26), .val (.int (Int32.ofNat (own_com Rf Of f 4 0 ct).length)), .val (.ref b36), .val (.int (Int32.ofNat (own_com Rf Of f 4 0 ct).length))] [(.int (1 : Int32)), (.int (Int32.ofNat (own_com Rf Of f 4 0 ct).length)), (.ref b36), (.ref b26)]))
    refine Gl.st (fun _ k => XS.iload X38.here hx rfl (hb hby at_370) rfl k) ?_
    show Gl p e below P (T38.setTop (mkF m 372 #[.val (.int p1), .val (.int p2), .val (.int p3), .val (.int p4), .val (.int b), .val (.ref b2), .val (.ref b14), .val (.int (Int32.ofNat f)), .val (.int (Int32.ofNat ct)), .val (.int sn), .val (.ref b26), .val (.int (Int32.ofNat (own_com Rf Of f 4 0 ct).length)), .val (.ref b36), .val (.int (Int32.ofNat (own_com Rf Of f 4 0 ct).length))] [(.int sn), (.int (1 : Int32)), (.int (Int32.ofNat (own_com Rf Of f 4 0 ct).length)), (.ref b36), (.ref b26)]))
    obtain ⟨_, _, ⟨T39, L39, k39, n39⟩, -, X39, ⟨Lc39, hQ39, l39, y39, z39⟩, st39⟩ := Jvm.LawKit.callS X38 hx (y := (⟨"com/example/vendace/vendace/service/SortedArraysIntersectPinLaw", "slot", "([I[IIII)Z"⟩ : MethodName)) hown (mvT hZ (hw _ (List.mem_of_getElem? (i := 17) rfl))) (mvT hZ (hw _ (List.mem_of_getElem? (i := 18) rfl))) (mvT hZ (hw _ (List.mem_of_getElem? (i := 15) rfl))) (mvT hZ (hw _ (List.mem_of_getElem? (i := 19) rfl))) (by decide) (backOf (W := 0) (rm27 l Z a0 hw [] b26 k26 (own_into (own_com Rf Of f 4 0 ct) (fun _ => sn)) b36 k36 (own_into (own_com Rf Of f 4 0 ct) (fun _ => (0 : Int32))) (own_com Rf Of f 4 0 ct).length 1 sn h37 n0 J37_Z J37_V_b26 J37_V_b36 cl4 (by decide) (fun q => by simp [own_into, q]) (fun q => by simp [own_into, q])) hZ (hw _ (List.mem_of_getElem? (i := 19) rfl)) (hw _ (List.mem_of_getElem? (i := 15) rfl)) (by decide) (by decide)) (g := (mkF m 372 #[.val (.int p1), .val (.int p2), .val (.int p3), .val (.int p4), .val (.int b), .val (.ref b2), .val (.ref b14), .val (.int (Int32.ofNat f)), .val (.int (Int32.ofNat ct)), .val (.int sn), .val (.ref b26), .val (.int (Int32.ofNat (own_com Rf Of f 4 0 ct).length)), .val (.ref b36), .val (.int (Int32.ofNat (own_com Rf Of f 4 0 ct).length))] [(.int sn), (.int (1 : Int32)), (.int (Int32.ofNat (own_com Rf Of f 4 0 ct).length)), (.ref b36), (.ref b26)])) rfl (by rw [hml]; rfl) (argsL := [(.ref b26), (.ref b36), (.int (Int32.ofNat (own_com Rf Of f 4 0 ct).length)), (.int (1 : Int32)), (.int sn)]) (rest := []) (lenOf pd_5 rfl) rfl (by show 2 * 0 + _ ≤ _; exact Nat.le_of_eq rfl) (hb hby at_372) (fun _ _ => ⟨rfl, e38, (by decide : 4 + 0 ≤ _), (by decide : 16 + 0 ≤ _)⟩)
    dsimp only [Pt.U, Pt.locs, Pt.cells, Pt.slots] at X39 l39 y39 z39 st39 hQ39
    subst l39 y39 z39
    obtain ⟨rfl, N39q, e39⟩ := hQ39
    have N39 := Fr.app N38 N39q
    refine Gl.st st39 ?_
    show Gl p e below P (T39.setTop (mkF m 375 #[.val (.int p1), .val (.int p2), .val (.int p3), .val (.int p4), .val (.int b), .val (.ref b2), .val (.ref b14), .val (.int (Int32.ofNat f)), .val (.int (Int32.ofNat ct)), .val (.int sn), .val (.ref b26), .val (.int (Int32.ofNat (own_com Rf Of f 4 0 ct).length)), .val (.ref b36), .val (.int (Int32.ofNat (own_com Rf Of f 4 0 ct).length))] [(.int (1 : Int32))]))
    refine Gl.st (fun _ k => XS.ifNo X39.here hx rfl (hb hby at_375) rfl ((if0 _ _).trans (feq (by decide : ¬ ((1 : Int32) = (0 : Int32)))).1) k) ?_
    show Gl p e below P (T39.setTop (mkF m 378 #[.val (.int p1), .val (.int p2), .val (.int p3), .val (.int p4), .val (.int b), .val (.ref b2), .val (.ref b14), .val (.int (Int32.ofNat f)), .val (.int (Int32.ofNat ct)), .val (.int sn), .val (.ref b26), .val (.int (Int32.ofNat (own_com Rf Of f 4 0 ct).length)), .val (.ref b36), .val (.int (Int32.ofNat (own_com Rf Of f 4 0 ct).length))] []))
    refine Gl.st (fun _ k => XS.aload X39.here hx rfl (hb hby at_378) rfl rfl k) ?_
    show Gl p e below P (T39.setTop (mkF m 380 #[.val (.int p1), .val (.int p2), .val (.int p3), .val (.int p4), .val (.int b), .val (.ref b2), .val (.ref b14), .val (.int (Int32.ofNat f)), .val (.int (Int32.ofNat ct)), .val (.int sn), .val (.ref b26), .val (.int (Int32.ofNat (own_com Rf Of f 4 0 ct).length)), .val (.ref b36), .val (.int (Int32.ofNat (own_com Rf Of f 4 0 ct).length))] [(.ref b26)]))
    refine Gl.st (fun _ k => XS.aload X39.here hx rfl (hb hby at_380) rfl rfl k) ?_
    show Gl p e below P (T39.setTop (mkF m 382 #[.val (.int p1), .val (.int p2), .val (.int p3), .val (.int p4), .val (.int b), .val (.ref b2), .val (.ref b14), .val (.int (Int32.ofNat f)), .val (.int (Int32.ofNat ct)), .val (.int sn), .val (.ref b26), .val (.int (Int32.ofNat (own_com Rf Of f 4 0 ct).length)), .val (.ref b36), .val (.int (Int32.ofNat (own_com Rf Of f 4 0 ct).length))] [(.ref b36), (.ref b26)]))
    refine Gl.st (fun _ k => XS.iload X39.here hx rfl (hb hby at_382) rfl k) ?_
    show Gl p e below P (T39.setTop (mkF m 384 #[.val (.int p1), .val (.int p2), .val (.int p3), .val (.int p4), .val (.int b), .val (.ref b2), .val (.ref b14), .val (.int (Int32.ofNat f)), .val (.int (Int32.ofNat ct)), .val (.int sn), .val (.ref b26), .val (.int (Int32.ofNat (own_com Rf Of f 4 0 ct).length)), .val (.ref b36), .val (.int (Int32.ofNat (own_com Rf Of f 4 0 ct).length))] [(.int (Int32.ofNat (own_com Rf Of f 4 0 ct).length)), (.ref b36), (.ref b26)]))
    refine Gl.st (fun _ k => XS.iconst X39.here hx rfl (hb hby at_384) k) ?_
    show Gl p e below P (T39.setTop (mkF m 385 #[.val (.int p1), .val (.int p2), .val (.int p3), .val (.int p4), .val (.int b), .val (.ref b2), .val (.ref b14), .val (.int (Int32.ofNat f)), .val (.int (Int32.ofNat ct)), .val (.int sn), .val (.ref b26), .val (.int (Int32.ofNat (own_com Rf Of f 4 0 ct).length)), .val (.ref b36), .val (.int (Int32.ofNat (own_com Rf Of f 4 0 ct).length))] [(.int (2 : Int32)), (.int (Int32.ofNat (own_com Rf Of f 4 0 ct).length)), (.ref b36), (.ref b26)]))
    refine Gl.st (fun _ k => XS.iload X39.here hx rfl (hb hby at_385) rfl k) ?_
    show Gl p e below P (T39.setTop (mkF m 387 #[.val (.int p1), .val (.int p2), .val (.int p3), .val (.int p4), .val (.int b), .val (.ref b2), .val (.ref b14), .val (.int (Int32.ofNat f)), .val (.int (Int32.ofNat ct)), .val (.int sn), .val (.ref b26), .val (.int (Int32.ofNat (own_com Rf Of f 4 0 ct).length)), .val (.ref b36), .val (.int (Int32.ofNat (own_com Rf Of f 4 0 ct).length))] [(.int sn), (.int (2 : Int32)), (.int (Int32.ofNat (own_com Rf Of f 4 0 ct).length)), (.ref b36), (.ref b26)]))
    obtain ⟨_, _, ⟨T40, L40, k40, n40⟩, -, X40, ⟨Lc40, hQ40, l40, y40, z40⟩, st40⟩ := Jvm.LawKit.callS X39 hx (y := (⟨"com/example/vendace/vendace/service/SortedArraysIntersectPinLaw", "slot", "([I[IIII)Z"⟩ : MethodName)) hown (mvT hZ (hw _ (List.mem_of_getElem? (i := 17) rfl))) (mvT hZ (hw _ (List.mem_of_getElem? (i := 18) rfl))) (mvT hZ (hw _ (List.mem_of_getElem? (i := 15) rfl))) (mvT hZ (hw _ (List.mem_of_getElem? (i := 19) rfl))) (by decide) (backOf (W := 0) (rm27 l Z a0 hw [] b26 k26 (own_into (own_com Rf Of f 4 0 ct) (fun _ => sn)) b36 k36 (own_into (own_com Rf Of f 4 0 ct) (fun _ => (0 : Int32))) (own_com Rf Of f 4 0 ct).length 2 sn h37 n0 J37_Z J37_V_b26 J37_V_b36 cl4 (by decide) (fun q => by simp [own_into, q]) (fun q => by simp [own_into, q])) hZ (hw _ (List.mem_of_getElem? (i := 19) rfl)) (hw _ (List.mem_of_getElem? (i := 15) rfl)) (by decide) (by decide)) (g := (mkF m 387 #[.val (.int p1), .val (.int p2), .val (.int p3), .val (.int p4), .val (.int b), .val (.ref b2), .val (.ref b14), .val (.int (Int32.ofNat f)), .val (.int (Int32.ofNat ct)), .val (.int sn), .val (.ref b26), .val (.int (Int32.ofNat (own_com Rf Of f 4 0 ct).length)), .val (.ref b36), .val (.int (Int32.ofNat (own_com Rf Of f 4 0 ct).length))] [(.int sn), (.int (2 : Int32)), (.int (Int32.ofNat (own_com Rf Of f 4 0 ct).length)), (.ref b36), (.ref b26)])) rfl (by rw [hml]; rfl) (argsL := [(.ref b26), (.ref b36), (.int (Int32.ofNat (own_com Rf Of f 4 0 ct).length)), (.int (2 : Int32)), (.int sn)]) (rest := []) (lenOf pd_5 rfl) rfl (by show 2 * 0 + _ ≤ _; exact Nat.le_of_eq rfl) (hb hby at_387) (fun _ _ => ⟨rfl, e39, (by decide : 4 + 0 ≤ _), (by decide : 16 + 0 ≤ _)⟩)
    dsimp only [Pt.U, Pt.locs, Pt.cells, Pt.slots] at X40 l40 y40 z40 st40 hQ40
    subst l40 y40 z40
    obtain ⟨rfl, N40q, e40⟩ := hQ40
    have N40 := Fr.app N39 N40q
    refine Gl.st st40 ?_
    show Gl p e below P (T40.setTop (mkF m 390 #[.val (.int p1), .val (.int p2), .val (.int p3), .val (.int p4), .val (.int b), .val (.ref b2), .val (.ref b14), .val (.int (Int32.ofNat f)), .val (.int (Int32.ofNat ct)), .val (.int sn), .val (.ref b26), .val (.int (Int32.ofNat (own_com Rf Of f 4 0 ct).length)), .val (.ref b36), .val (.int (Int32.ofNat (own_com Rf Of f 4 0 ct).length))] [(.int (1 : Int32))]))
    refine Gl.st (fun _ k => XS.ifNo X40.here hx rfl (hb hby at_390) rfl ((if0 _ _).trans (feq (by decide : ¬ ((1 : Int32) = (0 : Int32)))).1) k) ?_
    show Gl p e below P (T40.setTop (mkF m 393 #[.val (.int p1), .val (.int p2), .val (.int p3), .val (.int p4), .val (.int b), .val (.ref b2), .val (.ref b14), .val (.int (Int32.ofNat f)), .val (.int (Int32.ofNat ct)), .val (.int sn), .val (.ref b26), .val (.int (Int32.ofNat (own_com Rf Of f 4 0 ct).length)), .val (.ref b36), .val (.int (Int32.ofNat (own_com Rf Of f 4 0 ct).length))] []))
    refine Gl.st (fun _ k => XS.aload X40.here hx rfl (hb hby at_393) rfl rfl k) ?_
    show Gl p e below P (T40.setTop (mkF m 395 #[.val (.int p1), .val (.int p2), .val (.int p3), .val (.int p4), .val (.int b), .val (.ref b2), .val (.ref b14), .val (.int (Int32.ofNat f)), .val (.int (Int32.ofNat ct)), .val (.int sn), .val (.ref b26), .val (.int (Int32.ofNat (own_com Rf Of f 4 0 ct).length)), .val (.ref b36), .val (.int (Int32.ofNat (own_com Rf Of f 4 0 ct).length))] [(.ref b26)]))
    refine Gl.st (fun _ k => XS.aload X40.here hx rfl (hb hby at_395) rfl rfl k) ?_
    show Gl p e below P (T40.setTop (mkF m 397 #[.val (.int p1), .val (.int p2), .val (.int p3), .val (.int p4), .val (.int b), .val (.ref b2), .val (.ref b14), .val (.int (Int32.ofNat f)), .val (.int (Int32.ofNat ct)), .val (.int sn), .val (.ref b26), .val (.int (Int32.ofNat (own_com Rf Of f 4 0 ct).length)), .val (.ref b36), .val (.int (Int32.ofNat (own_com Rf Of f 4 0 ct).length))] [(.ref b36), (.ref b26)]))
    refine Gl.st (fun _ k => XS.iload X40.here hx rfl (hb hby at_397) rfl k) ?_
    show Gl p e below P (T40.setTop (mkF m 399 #[.val (.int p1), .val (.int p2), .val (.int p3), .val (.int p4), .val (.int b), .val (.ref b2), .val (.ref b14), .val (.int (Int32.ofNat f)), .val (.int (Int32.ofNat ct)), .val (.int sn), .val (.ref b26), .val (.int (Int32.ofNat (own_com Rf Of f 4 0 ct).length)), .val (.ref b36), .val (.int (Int32.ofNat (own_com Rf Of f 4 0 ct).length))] [(.int (Int32.ofNat (own_com Rf Of f 4 0 ct).length)), (.ref b36), (.ref b26)]))
    refine Gl.st (fun _ k => XS.iconst X40.here hx rfl (hb hby at_399) k) ?_
    show Gl p e below P (T40.setTop (mkF m 400 #[.val (.int p1), .val (.int p2), .val (.int p3), .val (.int p4), .val (.int b), .val (.ref b2), .val (.ref b14), .val (.int (Int32.ofNat f)), .val (.int (Int32.ofNat ct)), .val (.int sn), .val (.ref b26), .val (.int (Int32.ofNat (own_com Rf Of f 4 0 ct).length)), .val (.ref b36), .val (.int (Int32.ofNat (own_com Rf Of f 4 0 ct).length))] [(.int (3 : Int32)), (.int (Int32.ofNat (own_com Rf Of f 4 0 ct).length)), (.ref b36), (.ref b26)]))
    refine Gl.st (fun _ k => XS.iload X40.here hx rfl (hb hby at_400) rfl k) ?_
    show Gl p e below P (T40.setTop (mkF m 402 #[.val (.int p1), .val (.int p2), .val (.int p3), .val (.int p4), .val (.int b), .val (.ref b2), .val (.ref b14), .val (.int (Int32.ofNat f)), .val (.int (Int32.ofNat ct)), .val (.int sn), .val (.ref b26), .val (.int (Int32.ofNat (own_com Rf Of f 4 0 ct).length)), .val (.ref b36), .val (.int (Int32.ofNat (own_com Rf Of f 4 0 ct).length))] [(.int sn), (.int (3 : Int32)), (.int (Int32.ofNat (own_com Rf Of f 4 0 ct).length)), (.ref b36), (.ref b26)]))
    obtain ⟨_, _, ⟨T41, L41, k41, n41⟩, -, X41, ⟨Lc41, hQ41, l41, y41, z41⟩, st41⟩ := Jvm.LawKit.callS X40 hx (y := (⟨"com/example/vendace/vendace/service/SortedArraysIntersectPinLaw", "slot", "([I[IIII)Z"⟩ : MethodName)) hown (mvT hZ (hw _ (List.mem_of_getElem? (i := 17) rfl))) (mvT hZ (hw _ (List.mem_of_getElem? (i := 18) rfl))) (mvT hZ (hw _ (List.mem_of_getElem? (i := 15) rfl))) (mvT hZ (hw _ (List.mem_of_getElem? (i := 19) rfl))) (by decide) (backOf (W := 0) (rm27 l Z a0 hw [] b26 k26 (own_into (own_com Rf Of f 4 0 ct) (fun _ => sn)) b36 k36 (own_into (own_com Rf Of f 4 0 ct) (fun _ => (0 : Int32))) (own_com Rf Of f 4 0 ct).length 3 sn h37 n0 J37_Z J37_V_b26 J37_V_b36 cl4 (by decide) (fun q => by simp [own_into, q]) (fun q => by simp [own_into, q])) hZ (hw _ (List.mem_of_getElem? (i := 19) rfl)) (hw _ (List.mem_of_getElem? (i := 15) rfl)) (by decide) (by decide)) (g := (mkF m 402 #[.val (.int p1), .val (.int p2), .val (.int p3), .val (.int p4), .val (.int b), .val (.ref b2), .val (.ref b14), .val (.int (Int32.ofNat f)), .val (.int (Int32.ofNat ct)), .val (.int sn), .val (.ref b26), .val (.int (Int32.ofNat (own_com Rf Of f 4 0 ct).length)), .val (.ref b36), .val (.int (Int32.ofNat (own_com Rf Of f 4 0 ct).length))] [(.int sn), (.int (3 : Int32)), (.int (Int32.ofNat (own_com Rf Of f 4 0 ct).length)), (.ref b36), (.ref b26)])) rfl (by rw [hml]; rfl) (argsL := [(.ref b26), (.ref b36), (.int (Int32.ofNat (own_com Rf Of f 4 0 ct).length)), (.int (3 : Int32)), (.int sn)]) (rest := []) (lenOf pd_5 rfl) rfl (by show 2 * 0 + _ ≤ _; exact Nat.le_of_eq rfl) (hb hby at_402) (fun _ _ => ⟨rfl, e40, (by decide : 4 + 0 ≤ _), (by decide : 16 + 0 ≤ _)⟩)
    dsimp only [Pt.U, Pt.locs, Pt.cells, Pt.slots] at X41 l41 y41 z41 st41 hQ41
    subst l41 y41 z41
    obtain ⟨rfl, N41q, e41⟩ := hQ41
    have N41 := Fr.app N40 N41q
    refine Gl.st st41 ?_
    show Gl p e below P (T41.setTop (mkF m 405 #[.val (.int p1), .val (.int p2), .val (.int p3), .val (.int p4), .val (.int b), .val (.ref b2), .val (.ref b14), .val (.int (Int32.ofNat f)), .val (.int (Int32.ofNat ct)), .val (.int sn), .val (.ref b26), .val (.int (Int32.ofNat (own_com Rf Of f 4 0 ct).length)), .val (.ref b36), .val (.int (Int32.ofNat (own_com Rf Of f 4 0 ct).length))] [(.int (1 : Int32))]))
    refine Gl.st (fun _ k => XS.ifNo X41.here hx rfl (hb hby at_405) rfl ((if0 _ _).trans (feq (by decide : ¬ ((1 : Int32) = (0 : Int32)))).1) k) ?_
    show Gl p e below P (T41.setTop (mkF m 408 #[.val (.int p1), .val (.int p2), .val (.int p3), .val (.int p4), .val (.int b), .val (.ref b2), .val (.ref b14), .val (.int (Int32.ofNat f)), .val (.int (Int32.ofNat ct)), .val (.int sn), .val (.ref b26), .val (.int (Int32.ofNat (own_com Rf Of f 4 0 ct).length)), .val (.ref b36), .val (.int (Int32.ofNat (own_com Rf Of f 4 0 ct).length))] []))
    refine Gl.st (fun _ k => XS.iconst X41.here hx rfl (hb hby at_408) k) ?_
    show Gl p e below P (T41.setTop (mkF m 409 #[.val (.int p1), .val (.int p2), .val (.int p3), .val (.int p4), .val (.int b), .val (.ref b2), .val (.ref b14), .val (.int (Int32.ofNat f)), .val (.int (Int32.ofNat ct)), .val (.int sn), .val (.ref b26), .val (.int (Int32.ofNat (own_com Rf Of f 4 0 ct).length)), .val (.ref b36), .val (.int (Int32.ofNat (own_com Rf Of f 4 0 ct).length))] [(.int (1 : Int32))]))
    refine Gl.st (fun _ k => XS.goto X41.here hx rfl (pc0 := 409) (pc' := 413) rfl (hb hby at_409) (by decide) (by decide) k) ?_
    show Gl p e below P (T41.setTop (mkF m 413 #[.val (.int p1), .val (.int p2), .val (.int p3), .val (.int p4), .val (.int b), .val (.ref b2), .val (.ref b14), .val (.int (Int32.ofNat f)), .val (.int (Int32.ofNat ct)), .val (.int sn), .val (.ref b26), .val (.int (Int32.ofNat (own_com Rf Of f 4 0 ct).length)), .val (.ref b36), .val (.int (Int32.ofNat (own_com Rf Of f 4 0 ct).length))] [(.int (1 : Int32))]))
    obtain ⟨fs, hr, hrun, hended, hW, hsame⟩ := X41.leave (v := some (.int (1 : Int32))) (fun h => by rw [Bd.returns] at h; cases h)
    refine ⟨_, _, retN X41 hx (t := .boolean) Bd.returns (by simp) (hb hby at_413) hr, hrun, hended, hPost _ _ ⟨_, _, rfl, ?_, ⟨_, rfl⟩, hW, hsame.mono (by decide) (by decide)⟩⟩
    show Q0 Z p1 p2 p3 p4 h0 n0 _ T41.heap _
    rw [e41]
    exact ⟨rfl, N41⟩
  have J3 : ∀ (T42 : State) (locs42 : List Loc) (h42 : Heap), Stand p l e room_1 s m #[(.int p1), (.int p2), (.int p3), (.int p4)] below meth c T42 locs42 4 16 → T42.heap = h42 → Fr n0 locs42 → n0 ≤ h42.size → Arv Z h42 b2 k2 .int (4 : Int32) (own_v4 Rf) (.int (0 : Int32)) → Arv Z h42 b14 k14 .int (4 : Int32) (own_v4 Of) (.int (0 : Int32)) → Arv Z h42 b26 k26 .int (4 : Int32) (own_v4 (own_into (own_com Rf Of f 4 0 ct) (fun _ => sn))) (.int (0 : Int32)) → Arv Z h42 b36 k36 .int (4 : Int32) (own_v4 (own_into (own_com Rf Of f 3 0 ct) (fun _ => (0 : Int32)))) (.int (0 : Int32)) → Gl p e below P (T42.setTop (mkF m 307 #[.val (.int p1), .val (.int p2), .val (.int p3), .val (.int p4), .val (.int b), .val (.ref b2), .val (.ref b14), .val (.int (Int32.ofNat f)), .val (.int (Int32.ofNat ct)), .val (.int sn), .val (.ref b26), .val (.int (Int32.ofNat (own_com Rf Of f 4 0 ct).length)), .val (.ref b36), .val (.int (Int32.ofNat (own_com Rf Of f 3 0 ct).length))] [])) := by
    intro T42 locs42 h42 X42 e42 N42 J42_Z J42_V_b2 J42_V_b14 J42_V_b26 J42_V_b36
    show Gl p e below P (T42.setTop (mkF m 307 #[.val (.int p1), .val (.int p2), .val (.int p3), .val (.int p4), .val (.int b), .val (.ref b2), .val (.ref b14), .val (.int (Int32.ofNat f)), .val (.int (Int32.ofNat ct)), .val (.int sn), .val (.ref b26), .val (.int (Int32.ofNat (own_com Rf Of f 4 0 ct).length)), .val (.ref b36), .val (.int (Int32.ofNat (own_com Rf Of f 3 0 ct).length))] []))
    refine Gl.st (fun _ k => XS.iload X42.here hx rfl (hb hby at_307) rfl k) ?_
    show Gl p e below P (T42.setTop (mkF m 309 #[.val (.int p1), .val (.int p2), .val (.int p3), .val (.int p4), .val (.int b), .val (.ref b2), .val (.ref b14), .val (.int (Int32.ofNat f)), .val (.int (Int32.ofNat ct)), .val (.int sn), .val (.ref b26), .val (.int (Int32.ofNat (own_com Rf Of f 4 0 ct).length)), .val (.ref b36), .val (.int (Int32.ofNat (own_com Rf Of f 3 0 ct).length))] [(.int (Int32.ofNat f))]))
    refine Gl.st (fun _ k => XS.iconst X42.here hx rfl (hb hby at_309) k) ?_
    show Gl p e below P (T42.setTop (mkF m 310 #[.val (.int p1), .val (.int p2), .val (.int p3), .val (.int p4), .val (.int b), .val (.ref b2), .val (.ref b14), .val (.int (Int32.ofNat f)), .val (.int (Int32.ofNat ct)), .val (.int sn), .val (.ref b26), .val (.int (Int32.ofNat (own_com Rf Of f 4 0 ct).length)), .val (.ref b36), .val (.int (Int32.ofNat (own_com Rf Of f 3 0 ct).length))] [(.int (3 : Int32)), (.int (Int32.ofNat f))]))
    by_cases hfk : f ≤ 3
    · refine Gl.st (fun _ k => XS.icmpNo X42.here hx rfl (hb hby at_310) rfl (flt ((fun q => absurd ((own_lt 3 f (by omega) (by omega)).mp q) (by omega)) : ¬ ((3 : Int32) < (Int32.ofNat f)))).2.2.1 k) ?_
      show Gl p e below P (T42.setTop (mkF m 313 #[.val (.int p1), .val (.int p2), .val (.int p3), .val (.int p4), .val (.int b), .val (.ref b2), .val (.ref b14), .val (.int (Int32.ofNat f)), .val (.int (Int32.ofNat ct)), .val (.int sn), .val (.ref b26), .val (.int (Int32.ofNat (own_com Rf Of f 4 0 ct).length)), .val (.ref b36), .val (.int (Int32.ofNat (own_com Rf Of f 3 0 ct).length))] []))
      refine Gl.st (fun _ k => XS.aload X42.here hx rfl (hb hby at_313) rfl rfl k) ?_
      show Gl p e below P (T42.setTop (mkF m 315 #[.val (.int p1), .val (.int p2), .val (.int p3), .val (.int p4), .val (.int b), .val (.ref b2), .val (.ref b14), .val (.int (Int32.ofNat f)), .val (.int (Int32.ofNat ct)), .val (.int sn), .val (.ref b26), .val (.int (Int32.ofNat (own_com Rf Of f 4 0 ct).length)), .val (.ref b36), .val (.int (Int32.ofNat (own_com Rf Of f 3 0 ct).length))] [(.ref b14)]))
      refine Gl.st (fun _ k => XS.iload X42.here hx rfl (hb hby at_315) rfl k) ?_
      show Gl p e below P (T42.setTop (mkF m 317 #[.val (.int p1), .val (.int p2), .val (.int p3), .val (.int p4), .val (.int b), .val (.ref b2), .val (.ref b14), .val (.int (Int32.ofNat f)), .val (.int (Int32.ofNat ct)), .val (.int sn), .val (.ref b26), .val (.int (Int32.ofNat (own_com Rf Of f 4 0 ct).length)), .val (.ref b36), .val (.int (Int32.ofNat (own_com Rf Of f 3 0 ct).length))] [(.int (Int32.ofNat ct)), (.ref b14)]))
      refine Gl.st (fun _ k => XS.aload X42.here hx rfl (hb hby at_317) rfl rfl k) ?_
      show Gl p e below P (T42.setTop (mkF m 319 #[.val (.int p1), .val (.int p2), .val (.int p3), .val (.int p4), .val (.int b), .val (.ref b2), .val (.ref b14), .val (.int (Int32.ofNat f)), .val (.int (Int32.ofNat ct)), .val (.int sn), .val (.ref b26), .val (.int (Int32.ofNat (own_com Rf Of f 4 0 ct).length)), .val (.ref b36), .val (.int (Int32.ofNat (own_com Rf Of f 3 0 ct).length))] [(.ref b2), (.int (Int32.ofNat ct)), (.ref b14)]))
      refine Gl.st (fun _ k => XS.iconst X42.here hx rfl (hb hby at_319) k) ?_
      show Gl p e below P (T42.setTop (mkF m 320 #[.val (.int p1), .val (.int p2), .val (.int p3), .val (.int p4), .val (.int b), .val (.ref b2), .val (.ref b14), .val (.int (Int32.ofNat f)), .val (.int (Int32.ofNat ct)), .val (.int sn), .val (.ref b26), .val (.int (Int32.ofNat (own_com Rf Of f 4 0 ct).length)), .val (.ref b36), .val (.int (Int32.ofNat (own_com Rf Of f 3 0 ct).length))] [(.int (3 : Int32)), (.ref b2), (.int (Int32.ofNat ct)), (.ref b14)]))
      obtain ⟨c43, Ar43, q43, S43, M43, H43, U43⟩ := id J42_V_b2
      have hin43 : ¬ ((3 : Int32) < 0 ∨ c43.slots.size ≤ ((3 : Int32)).toNatClampNeg) := inb_of S43 ⟨(by decide), (by decide)⟩
      have hat43 : c43.slots[((3 : Int32)).toNatClampNeg]? = some (.int r3) := H43.at hin43 (by rw [← eR3]; exact own_get4 Rf 3 (by decide))
      refine Gl.st (X42.iaload hx (j := (3 : Int32)) (v := (.int r3)) (by rw [e42]; exact Ar43.1) (State.isArrayOf_alike hZ.alike Ar43.2.1) Ar43.2.2 hin43 hat43 (g := (mkF m 320 #[.val (.int p1), .val (.int p2), .val (.int p3), .val (.int p4), .val (.int b), .val (.ref b2), .val (.ref b14), .val (.int (Int32.ofNat f)), .val (.int (Int32.ofNat ct)), .val (.int sn), .val (.ref b26), .val (.int (Int32.ofNat (own_com Rf Of f 4 0 ct).length)), .val (.ref b36), .val (.int (Int32.ofNat (own_com Rf Of f 3 0 ct).length))] [(.int (3 : Int32)), (.ref b2), (.int (Int32.ofNat ct)), (.ref b14)])) rfl rfl (hb hby at_320)) ?_
      show Gl p e below P (T42.setTop (mkF m 321 #[.val (.int p1), .val (.int p2), .val (.int p3), .val (.int p4), .val (.int b), .val (.ref b2), .val (.ref b14), .val (.int (Int32.ofNat f)), .val (.int (Int32.ofNat ct)), .val (.int sn), .val (.ref b26), .val (.int (Int32.ofNat (own_com Rf Of f 4 0 ct).length)), .val (.ref b36), .val (.int (Int32.ofNat (own_com Rf Of f 3 0 ct).length))] [(.int r3), (.int (Int32.ofNat ct)), (.ref b14)]))
      rw [← eR3]
      show Gl p e below P (T42.setTop (mkF m 321 #[.val (.int p1), .val (.int p2), .val (.int p3), .val (.int p4), .val (.int b), .val (.ref b2), .val (.ref b14), .val (.int (Int32.ofNat f)), .val (.int (Int32.ofNat ct)), .val (.int sn), .val (.ref b26), .val (.int (Int32.ofNat (own_com Rf Of f 4 0 ct).length)), .val (.ref b36), .val (.int (Int32.ofNat (own_com Rf Of f 3 0 ct).length))] [(.int (Rf 3)), (.int (Int32.ofNat ct)), (.ref b14)]))
      by_cases hin : own_in Of 0 ct (Rf 3) = true
      · obtain ⟨_, _, ⟨T44, L44, k44, n44⟩, -, X44, ⟨Lc44, hQ44, l44, y44, z44⟩, st44⟩ := Jvm.LawKit.callS X42 hx (y := (⟨"com/example/vendace/vendace/service/SortedArraysIntersectPinLaw", "holds", "([III)Z"⟩ : MethodName)) hown (mvT hZ (hw _ (List.mem_of_getElem? (i := 13) rfl))) (mvT hZ (hw _ (List.mem_of_getElem? (i := 14) rfl))) (mvT hZ (hw _ (List.mem_of_getElem? (i := 15) rfl))) (mvT hZ (hw _ (List.mem_of_getElem? (i := 16) rfl))) (by decide) (backOf (W := 0) (rm26 l Z a0 hw [] b14 k14 Of ct (Rf 3) (1 : Int32) h42 n0 J42_Z J42_V_b14 hct (Or.inl ⟨hin, rfl⟩)) hZ (hw _ (List.mem_of_getElem? (i := 16) rfl)) (hw _ (List.mem_of_getElem? (i := 15) rfl)) (by decide) (by decide)) (g := (mkF m 321 #[.val (.int p1), .val (.int p2), .val (.int p3), .val (.int p4), .val (.int b), .val (.ref b2), .val (.ref b14), .val (.int (Int32.ofNat f)), .val (.int (Int32.ofNat ct)), .val (.int sn), .val (.ref b26), .val (.int (Int32.ofNat (own_com Rf Of f 4 0 ct).length)), .val (.ref b36), .val (.int (Int32.ofNat (own_com Rf Of f 3 0 ct).length))] [(.int (Rf 3)), (.int (Int32.ofNat ct)), (.ref b14)])) rfl (by rw [hml]; rfl) (argsL := [(.ref b14), (.int (Int32.ofNat ct)), (.int (Rf 3))]) (rest := []) (lenOf pd_6 rfl) rfl (by show 2 * 0 + _ ≤ _; exact Nat.le_of_eq rfl) (hb hby at_321) (fun _ _ => ⟨rfl, e42, (by decide : 4 + 0 ≤ _), (by decide : 16 + 0 ≤ _)⟩)
        dsimp only [Pt.U, Pt.locs, Pt.cells, Pt.slots] at X44 l44 y44 z44 st44 hQ44
        subst l44 y44 z44
        obtain ⟨rfl, N44q, e44⟩ := hQ44
        have N44 := Fr.app N42 N44q
        refine Gl.st st44 ?_
        show Gl p e below P (T44.setTop (mkF m 324 #[.val (.int p1), .val (.int p2), .val (.int p3), .val (.int p4), .val (.int b), .val (.ref b2), .val (.ref b14), .val (.int (Int32.ofNat f)), .val (.int (Int32.ofNat ct)), .val (.int sn), .val (.ref b26), .val (.int (Int32.ofNat (own_com Rf Of f 4 0 ct).length)), .val (.ref b36), .val (.int (Int32.ofNat (own_com Rf Of f 3 0 ct).length))] [(.int (1 : Int32))]))
        refine Gl.st (fun _ k => XS.ifNo X44.here hx rfl (hb hby at_324) rfl ((if0 _ _).trans (feq (by decide : ¬ ((1 : Int32) = (0 : Int32)))).1) k) ?_
        show Gl p e below P (T44.setTop (mkF m 327 #[.val (.int p1), .val (.int p2), .val (.int p3), .val (.int p4), .val (.int b), .val (.ref b2), .val (.ref b14), .val (.int (Int32.ofNat f)), .val (.int (Int32.ofNat ct)), .val (.int sn), .val (.ref b26), .val (.int (Int32.ofNat (own_com Rf Of f 4 0 ct).length)), .val (.ref b36), .val (.int (Int32.ofNat (own_com Rf Of f 3 0 ct).length))] []))
        refine Gl.st (fun _ k => XS.aload X44.here hx rfl (hb hby at_327) rfl rfl k) ?_
        show Gl p e below P (T44.setTop (mkF m 329 #[.val (.int p1), .val (.int p2), .val (.int p3), .val (.int p4), .val (.int b), .val (.ref b2), .val (.ref b14), .val (.int (Int32.ofNat f)), .val (.int (Int32.ofNat ct)), .val (.int sn), .val (.ref b26), .val (.int (Int32.ofNat (own_com Rf Of f 4 0 ct).length)), .val (.ref b36), .val (.int (Int32.ofNat (own_com Rf Of f 3 0 ct).length))] [(.ref b36)]))
        refine Gl.st (fun _ k => XS.iload X44.here hx rfl (hb hby at_329) rfl k) ?_
        show Gl p e below P (T44.setTop (mkF m 331 #[.val (.int p1), .val (.int p2), .val (.int p3), .val (.int p4), .val (.int b), .val (.ref b2), .val (.ref b14), .val (.int (Int32.ofNat f)), .val (.int (Int32.ofNat ct)), .val (.int sn), .val (.ref b26), .val (.int (Int32.ofNat (own_com Rf Of f 4 0 ct).length)), .val (.ref b36), .val (.int (Int32.ofNat (own_com Rf Of f 3 0 ct).length))] [(.int (Int32.ofNat (own_com Rf Of f 3 0 ct).length)), (.ref b36)]))
        refine Gl.st (fun _ k => XS.aload X44.here hx rfl (hb hby at_331) rfl rfl k) ?_
        show Gl p e below P (T44.setTop (mkF m 333 #[.val (.int p1), .val (.int p2), .val (.int p3), .val (.int p4), .val (.int b), .val (.ref b2), .val (.ref b14), .val (.int (Int32.ofNat f)), .val (.int (Int32.ofNat ct)), .val (.int sn), .val (.ref b26), .val (.int (Int32.ofNat (own_com Rf Of f 4 0 ct).length)), .val (.ref b36), .val (.int (Int32.ofNat (own_com Rf Of f 3 0 ct).length))] [(.ref b2), (.int (Int32.ofNat (own_com Rf Of f 3 0 ct).length)), (.ref b36)]))
        refine Gl.st (fun _ k => XS.iconst X44.here hx rfl (hb hby at_333) k) ?_
        show Gl p e below P (T44.setTop (mkF m 334 #[.val (.int p1), .val (.int p2), .val (.int p3), .val (.int p4), .val (.int b), .val (.ref b2), .val (.ref b14), .val (.int (Int32.ofNat f)), .val (.int (Int32.ofNat ct)), .val (.int sn), .val (.ref b26), .val (.int (Int32.ofNat (own_com Rf Of f 4 0 ct).length)), .val (.ref b36), .val (.int (Int32.ofNat (own_com Rf Of f 3 0 ct).length))] [(.int (3 : Int32)), (.ref b2), (.int (Int32.ofNat (own_com Rf Of f 3 0 ct).length)), (.ref b36)]))
        obtain ⟨c45, Ar45, q45, S45, M45, H45, U45⟩ := id J42_V_b2
        have hin45 : ¬ ((3 : Int32) < 0 ∨ c45.slots.size ≤ ((3 : Int32)).toNatClampNeg) := inb_of S45 ⟨(by decide), (by decide)⟩
        have hat45 : c45.slots[((3 : Int32)).toNatClampNeg]? = some (.int (Rf 3)) := H45.at hin45 (by exact own_get4 Rf 3 (by decide))
        refine Gl.st (X44.iaload hx (j := (3 : Int32)) (v := (.int (Rf 3))) (by rw [e44]; exact Ar45.1) (State.isArrayOf_alike hZ.alike Ar45.2.1) Ar45.2.2 hin45 hat45 (g := (mkF m 334 #[.val (.int p1), .val (.int p2), .val (.int p3), .val (.int p4), .val (.int b), .val (.ref b2), .val (.ref b14), .val (.int (Int32.ofNat f)), .val (.int (Int32.ofNat ct)), .val (.int sn), .val (.ref b26), .val (.int (Int32.ofNat (own_com Rf Of f 4 0 ct).length)), .val (.ref b36), .val (.int (Int32.ofNat (own_com Rf Of f 3 0 ct).length))] [(.int (3 : Int32)), (.ref b2), (.int (Int32.ofNat (own_com Rf Of f 3 0 ct).length)), (.ref b36)])) rfl rfl (hb hby at_334)) ?_
        show Gl p e below P (T44.setTop (mkF m 335 #[.val (.int p1), .val (.int p2), .val (.int p3), .val (.int p4), .val (.int b), .val (.ref b2), .val (.ref b14), .val (.int (Int32.ofNat f)), .val (.int (Int32.ofNat ct)), .val (.int sn), .val (.ref b26), .val (.int (Int32.ofNat (own_com Rf Of f 4 0 ct).length)), .val (.ref b36), .val (.int (Int32.ofNat (own_com Rf Of f 3 0 ct).length))] [(.int (Rf 3)), (.int (Int32.ofNat (own_com Rf Of f 3 0 ct).length)), (.ref b36)]))
        have cl := own_com_len Rf Of f 3 0 ct
        have hnx := own_com_in (W := Rf) (S := Of) (f := f) (i := 3) (lo := 0) (hi := ct) hfk hin
        obtain ⟨c46, Ar46, q46, S46, M46, H46, U46⟩ := id J42_V_b36
        obtain ⟨T47, h47, X47, e47, W47, st47⟩ := stI X44 hx hZ e44 Ar46 (j := (Int32.ofNat (own_com Rf Of f 3 0 ct).length)) (inb_of S46 ⟨own_neg _ (by omega), own_lt4 _ (by omega)⟩) (g := (mkF m 335 #[.val (.int p1), .val (.int p2), .val (.int p3), .val (.int p4), .val (.int b), .val (.ref b2), .val (.ref b14), .val (.int (Int32.ofNat f)), .val (.int (Int32.ofNat ct)), .val (.int sn), .val (.ref b26), .val (.int (Int32.ofNat (own_com Rf Of f 4 0 ct).length)), .val (.ref b36), .val (.int (Int32.ofNat (own_com Rf Of f 3 0 ct).length))] [(.int (Rf 3)), (.int (Int32.ofNat (own_com Rf Of f 3 0 ct).length)), (.ref b36)])) rfl rfl (hb hby at_335)
        refine Gl.st st47 ?_
        have J42_Z_v47 : n0 ≤ h47.size := Nat.le_trans J42_Z (Keep.of_wr W47).1
        have J42_V_b2_v47 : Arv Z h47 b2 k2 .int (4 : Int32) (own_v4 Rf) (.int (0 : Int32)) := J42_V_b2.other W47 ne_b2_b36
        have J42_V_b14_v47 : Arv Z h47 b14 k14 .int (4 : Int32) (own_v4 Of) (.int (0 : Int32)) := J42_V_b14.other W47 ne_b14_b36
        have J42_V_b26_v47 : Arv Z h47 b26 k26 .int (4 : Int32) (own_v4 (own_into (own_com Rf Of f 4 0 ct) (fun _ => sn))) (.int (0 : Int32)) := J42_V_b26.other W47 ne_b26_b36
        have VN : Arv Z h47 b36 k36 .int (4 : Int32) ((own_v4 (own_into (own_com Rf Of f 3 0 ct) (fun _ => (0 : Int32)))).set (own_com Rf Of f 3 0 ct).length (.int (Rf 3))) (.int (0 : Int32)) := Arv.set Ar46 q46 S46 M46 H46 U46 rfl W47 _ (own_nn _ (by omega)) (show _ < 4 by omega)
        rw [own_set4 _ _ (by omega), own_into_snoc, ← hnx] at VN
        have N47 := Fr.snoc X47 N44 g_b36
        show Gl p e below P (T47.setTop (mkF m 336 #[.val (.int p1), .val (.int p2), .val (.int p3), .val (.int p4), .val (.int b), .val (.ref b2), .val (.ref b14), .val (.int (Int32.ofNat f)), .val (.int (Int32.ofNat ct)), .val (.int sn), .val (.ref b26), .val (.int (Int32.ofNat (own_com Rf Of f 4 0 ct).length)), .val (.ref b36), .val (.int (Int32.ofNat (own_com Rf Of f 3 0 ct).length))] []))
        refine Gl.st (fun _ k => XS.iinc X47.here hx rfl (hb hby at_336) rfl (l' := #[.val (.int p1), .val (.int p2), .val (.int p3), .val (.int p4), .val (.int b), .val (.ref b2), .val (.ref b14), .val (.int (Int32.ofNat f)), .val (.int (Int32.ofNat ct)), .val (.int sn), .val (.ref b26), .val (.int (Int32.ofNat (own_com Rf Of f 4 0 ct).length)), .val (.ref b36), .val (.int ((Int32.ofNat (own_com Rf Of f 3 0 ct).length) + (1 : Int32)))]) rfl k) ?_
        show Gl p e below P (T47.setTop (mkF m 339 #[.val (.int p1), .val (.int p2), .val (.int p3), .val (.int p4), .val (.int b), .val (.ref b2), .val (.ref b14), .val (.int (Int32.ofNat f)), .val (.int (Int32.ofNat ct)), .val (.int sn), .val (.ref b26), .val (.int (Int32.ofNat (own_com Rf Of f 4 0 ct).length)), .val (.ref b36), .val (.int ((Int32.ofNat (own_com Rf Of f 3 0 ct).length) + (1 : Int32)))] []))
        have hlen : Int32.ofNat (own_com Rf Of f 3 0 ct).length + (1 : Int32) = Int32.ofNat (own_com Rf Of f 4 0 ct).length := by rw [own_s, hnx, List.length_append]; rfl
        rw [hlen]
        show Gl p e below P (T47.setTop (mkF m 339 #[.val (.int p1), .val (.int p2), .val (.int p3), .val (.int p4), .val (.int b), .val (.ref b2), .val (.ref b14), .val (.int (Int32.ofNat f)), .val (.int (Int32.ofNat ct)), .val (.int sn), .val (.ref b26), .val (.int (Int32.ofNat (own_com Rf Of f 4 0 ct).length)), .val (.ref b36), .val (.int (Int32.ofNat (own_com Rf Of f 4 0 ct).length))] []))
        exact J4 T47 _ _ (X47.mono (by decide) (by decide)) e47 N47 J42_Z_v47 J42_V_b2_v47 J42_V_b14_v47 J42_V_b26_v47 VN
      · obtain ⟨_, _, ⟨T48, L48, k48, n48⟩, -, X48, ⟨Lc48, hQ48, l48, y48, z48⟩, st48⟩ := Jvm.LawKit.callS X42 hx (y := (⟨"com/example/vendace/vendace/service/SortedArraysIntersectPinLaw", "holds", "([III)Z"⟩ : MethodName)) hown (mvT hZ (hw _ (List.mem_of_getElem? (i := 13) rfl))) (mvT hZ (hw _ (List.mem_of_getElem? (i := 14) rfl))) (mvT hZ (hw _ (List.mem_of_getElem? (i := 15) rfl))) (mvT hZ (hw _ (List.mem_of_getElem? (i := 16) rfl))) (by decide) (backOf (W := 0) (rm26 l Z a0 hw [] b14 k14 Of ct (Rf 3) (0 : Int32) h42 n0 J42_Z J42_V_b14 hct (Or.inr ⟨hin, rfl⟩)) hZ (hw _ (List.mem_of_getElem? (i := 16) rfl)) (hw _ (List.mem_of_getElem? (i := 15) rfl)) (by decide) (by decide)) (g := (mkF m 321 #[.val (.int p1), .val (.int p2), .val (.int p3), .val (.int p4), .val (.int b), .val (.ref b2), .val (.ref b14), .val (.int (Int32.ofNat f)), .val (.int (Int32.ofNat ct)), .val (.int sn), .val (.ref b26), .val (.int (Int32.ofNat (own_com Rf Of f 4 0 ct).length)), .val (.ref b36), .val (.int (Int32.ofNat (own_com Rf Of f 3 0 ct).length))] [(.int (Rf 3)), (.int (Int32.ofNat ct)), (.ref b14)])) rfl (by rw [hml]; rfl) (argsL := [(.ref b14), (.int (Int32.ofNat ct)), (.int (Rf 3))]) (rest := []) (lenOf pd_6 rfl) rfl (by show 2 * 0 + _ ≤ _; exact Nat.le_of_eq rfl) (hb hby at_321) (fun _ _ => ⟨rfl, e42, (by decide : 4 + 0 ≤ _), (by decide : 16 + 0 ≤ _)⟩)
        dsimp only [Pt.U, Pt.locs, Pt.cells, Pt.slots] at X48 l48 y48 z48 st48 hQ48
        subst l48 y48 z48
        obtain ⟨rfl, N48q, e48⟩ := hQ48
        have N48 := Fr.app N42 N48q
        refine Gl.st st48 ?_
        show Gl p e below P (T48.setTop (mkF m 324 #[.val (.int p1), .val (.int p2), .val (.int p3), .val (.int p4), .val (.int b), .val (.ref b2), .val (.ref b14), .val (.int (Int32.ofNat f)), .val (.int (Int32.ofNat ct)), .val (.int sn), .val (.ref b26), .val (.int (Int32.ofNat (own_com Rf Of f 4 0 ct).length)), .val (.ref b36), .val (.int (Int32.ofNat (own_com Rf Of f 3 0 ct).length))] [(.int (0 : Int32))]))
        refine Gl.st (fun _ k => XS.ifYes X48.here hx rfl (pc0 := 324) (pc' := 339) rfl (hb hby at_324) rfl ((if0 _ _).trans (teq (by decide : (0 : Int32) = (0 : Int32))).1) (by decide) (by decide) k) ?_
        show Gl p e below P (T48.setTop (mkF m 339 #[.val (.int p1), .val (.int p2), .val (.int p3), .val (.int p4), .val (.int b), .val (.ref b2), .val (.ref b14), .val (.int (Int32.ofNat f)), .val (.int (Int32.ofNat ct)), .val (.int sn), .val (.ref b26), .val (.int (Int32.ofNat (own_com Rf Of f 4 0 ct).length)), .val (.ref b36), .val (.int (Int32.ofNat (own_com Rf Of f 3 0 ct).length))] []))
        have hnx := own_com_out (W := Rf) (S := Of) (f := f) (i := 3) (lo := 0) (hi := ct) (fun q => hin q.2)
        rw [← hnx]
        show Gl p e below P (T48.setTop (mkF m 339 #[.val (.int p1), .val (.int p2), .val (.int p3), .val (.int p4), .val (.int b), .val (.ref b2), .val (.ref b14), .val (.int (Int32.ofNat f)), .val (.int (Int32.ofNat ct)), .val (.int sn), .val (.ref b26), .val (.int (Int32.ofNat (own_com Rf Of f 4 0 ct).length)), .val (.ref b36), .val (.int (Int32.ofNat (own_com Rf Of f 4 0 ct).length))] []))
        have VN := J42_V_b36
        rw [← hnx] at VN
        exact J4 T48 _ _ (X48.mono (by decide) (by decide)) e48 N48 J42_Z J42_V_b2 J42_V_b14 J42_V_b26 VN
    · refine Gl.st (fun _ k => XS.icmpYes X42.here hx rfl (pc0 := 310) (pc' := 339) rfl (hb hby at_310) rfl (tlt ((own_lt 3 f (by omega) (by omega)).mpr (by omega) : (3 : Int32) < (Int32.ofNat f))).2.2.1 (by decide) (by decide) k) ?_
      show Gl p e below P (T42.setTop (mkF m 339 #[.val (.int p1), .val (.int p2), .val (.int p3), .val (.int p4), .val (.int b), .val (.ref b2), .val (.ref b14), .val (.int (Int32.ofNat f)), .val (.int (Int32.ofNat ct)), .val (.int sn), .val (.ref b26), .val (.int (Int32.ofNat (own_com Rf Of f 4 0 ct).length)), .val (.ref b36), .val (.int (Int32.ofNat (own_com Rf Of f 3 0 ct).length))] []))
      have hnx := own_com_out (W := Rf) (S := Of) (f := f) (i := 3) (lo := 0) (hi := ct) (fun q => hfk q.1)
      rw [← hnx]
      show Gl p e below P (T42.setTop (mkF m 339 #[.val (.int p1), .val (.int p2), .val (.int p3), .val (.int p4), .val (.int b), .val (.ref b2), .val (.ref b14), .val (.int (Int32.ofNat f)), .val (.int (Int32.ofNat ct)), .val (.int sn), .val (.ref b26), .val (.int (Int32.ofNat (own_com Rf Of f 4 0 ct).length)), .val (.ref b36), .val (.int (Int32.ofNat (own_com Rf Of f 4 0 ct).length))] []))
      have VN := J42_V_b36
      rw [← hnx] at VN
      exact J4 T42 _ _ (X42.mono (by decide) (by decide)) e42 N42 J42_Z J42_V_b2 J42_V_b14 J42_V_b26 VN
  have J2 : ∀ (T49 : State) (locs49 : List Loc) (h49 : Heap), Stand p l e room_1 s m #[(.int p1), (.int p2), (.int p3), (.int p4)] below meth c T49 locs49 4 16 → T49.heap = h49 → Fr n0 locs49 → n0 ≤ h49.size → Arv Z h49 b2 k2 .int (4 : Int32) (own_v4 Rf) (.int (0 : Int32)) → Arv Z h49 b14 k14 .int (4 : Int32) (own_v4 Of) (.int (0 : Int32)) → Arv Z h49 b26 k26 .int (4 : Int32) (own_v4 (own_into (own_com Rf Of f 4 0 ct) (fun _ => sn))) (.int (0 : Int32)) → Arv Z h49 b36 k36 .int (4 : Int32) (own_v4 (own_into (own_com Rf Of f 2 0 ct) (fun _ => (0 : Int32)))) (.int (0 : Int32)) → Gl p e below P (T49.setTop (mkF m 275 #[.val (.int p1), .val (.int p2), .val (.int p3), .val (.int p4), .val (.int b), .val (.ref b2), .val (.ref b14), .val (.int (Int32.ofNat f)), .val (.int (Int32.ofNat ct)), .val (.int sn), .val (.ref b26), .val (.int (Int32.ofNat (own_com Rf Of f 4 0 ct).length)), .val (.ref b36), .val (.int (Int32.ofNat (own_com Rf Of f 2 0 ct).length))] [])) := by
    intro T49 locs49 h49 X49 e49 N49 J49_Z J49_V_b2 J49_V_b14 J49_V_b26 J49_V_b36
    show Gl p e below P (T49.setTop (mkF m 275 #[.val (.int p1), .val (.int p2), .val (.int p3), .val (.int p4), .val (.int b), .val (.ref b2), .val (.ref b14), .val (.int (Int32.ofNat f)), .val (.int (Int32.ofNat ct)), .val (.int sn), .val (.ref b26), .val (.int (Int32.ofNat (own_com Rf Of f 4 0 ct).length)), .val (.ref b36), .val (.int (Int32.ofNat (own_com Rf Of f 2 0 ct).length))] []))
    refine Gl.st (fun _ k => XS.iload X49.here hx rfl (hb hby at_275) rfl k) ?_
    show Gl p e below P (T49.setTop (mkF m 277 #[.val (.int p1), .val (.int p2), .val (.int p3), .val (.int p4), .val (.int b), .val (.ref b2), .val (.ref b14), .val (.int (Int32.ofNat f)), .val (.int (Int32.ofNat ct)), .val (.int sn), .val (.ref b26), .val (.int (Int32.ofNat (own_com Rf Of f 4 0 ct).length)), .val (.ref b36), .val (.int (Int32.ofNat (own_com Rf Of f 2 0 ct).length))] [(.int (Int32.ofNat f))]))
    refine Gl.st (fun _ k => XS.iconst X49.here hx rfl (hb hby at_277) k) ?_
    show Gl p e below P (T49.setTop (mkF m 278 #[.val (.int p1), .val (.int p2), .val (.int p3), .val (.int p4), .val (.int b), .val (.ref b2), .val (.ref b14), .val (.int (Int32.ofNat f)), .val (.int (Int32.ofNat ct)), .val (.int sn), .val (.ref b26), .val (.int (Int32.ofNat (own_com Rf Of f 4 0 ct).length)), .val (.ref b36), .val (.int (Int32.ofNat (own_com Rf Of f 2 0 ct).length))] [(.int (2 : Int32)), (.int (Int32.ofNat f))]))
    by_cases hfk : f ≤ 2
    · refine Gl.st (fun _ k => XS.icmpNo X49.here hx rfl (hb hby at_278) rfl (flt ((fun q => absurd ((own_lt 2 f (by omega) (by omega)).mp q) (by omega)) : ¬ ((2 : Int32) < (Int32.ofNat f)))).2.2.1 k) ?_
      show Gl p e below P (T49.setTop (mkF m 281 #[.val (.int p1), .val (.int p2), .val (.int p3), .val (.int p4), .val (.int b), .val (.ref b2), .val (.ref b14), .val (.int (Int32.ofNat f)), .val (.int (Int32.ofNat ct)), .val (.int sn), .val (.ref b26), .val (.int (Int32.ofNat (own_com Rf Of f 4 0 ct).length)), .val (.ref b36), .val (.int (Int32.ofNat (own_com Rf Of f 2 0 ct).length))] []))
      refine Gl.st (fun _ k => XS.aload X49.here hx rfl (hb hby at_281) rfl rfl k) ?_
      show Gl p e below P (T49.setTop (mkF m 283 #[.val (.int p1), .val (.int p2), .val (.int p3), .val (.int p4), .val (.int b), .val (.ref b2), .val (.ref b14), .val (.int (Int32.ofNat f)), .val (.int (Int32.ofNat ct)), .val (.int sn), .val (.ref b26), .val (.int (Int32.ofNat (own_com Rf Of f 4 0 ct).length)), .val (.ref b36), .val (.int (Int32.ofNat (own_com Rf Of f 2 0 ct).length))] [(.ref b14)]))
      refine Gl.st (fun _ k => XS.iload X49.here hx rfl (hb hby at_283) rfl k) ?_
      show Gl p e below P (T49.setTop (mkF m 285 #[.val (.int p1), .val (.int p2), .val (.int p3), .val (.int p4), .val (.int b), .val (.ref b2), .val (.ref b14), .val (.int (Int32.ofNat f)), .val (.int (Int32.ofNat ct)), .val (.int sn), .val (.ref b26), .val (.int (Int32.ofNat (own_com Rf Of f 4 0 ct).length)), .val (.ref b36), .val (.int (Int32.ofNat (own_com Rf Of f 2 0 ct).length))] [(.int (Int32.ofNat ct)), (.ref b14)]))
      refine Gl.st (fun _ k => XS.aload X49.here hx rfl (hb hby at_285) rfl rfl k) ?_
      show Gl p e below P (T49.setTop (mkF m 287 #[.val (.int p1), .val (.int p2), .val (.int p3), .val (.int p4), .val (.int b), .val (.ref b2), .val (.ref b14), .val (.int (Int32.ofNat f)), .val (.int (Int32.ofNat ct)), .val (.int sn), .val (.ref b26), .val (.int (Int32.ofNat (own_com Rf Of f 4 0 ct).length)), .val (.ref b36), .val (.int (Int32.ofNat (own_com Rf Of f 2 0 ct).length))] [(.ref b2), (.int (Int32.ofNat ct)), (.ref b14)]))
      refine Gl.st (fun _ k => XS.iconst X49.here hx rfl (hb hby at_287) k) ?_
      show Gl p e below P (T49.setTop (mkF m 288 #[.val (.int p1), .val (.int p2), .val (.int p3), .val (.int p4), .val (.int b), .val (.ref b2), .val (.ref b14), .val (.int (Int32.ofNat f)), .val (.int (Int32.ofNat ct)), .val (.int sn), .val (.ref b26), .val (.int (Int32.ofNat (own_com Rf Of f 4 0 ct).length)), .val (.ref b36), .val (.int (Int32.ofNat (own_com Rf Of f 2 0 ct).length))] [(.int (2 : Int32)), (.ref b2), (.int (Int32.ofNat ct)), (.ref b14)]))
      obtain ⟨c50, Ar50, q50, S50, M50, H50, U50⟩ := id J49_V_b2
      have hin50 : ¬ ((2 : Int32) < 0 ∨ c50.slots.size ≤ ((2 : Int32)).toNatClampNeg) := inb_of S50 ⟨(by decide), (by decide)⟩
      have hat50 : c50.slots[((2 : Int32)).toNatClampNeg]? = some (.int r2) := H50.at hin50 (by rw [← eR2]; exact own_get4 Rf 2 (by decide))
      refine Gl.st (X49.iaload hx (j := (2 : Int32)) (v := (.int r2)) (by rw [e49]; exact Ar50.1) (State.isArrayOf_alike hZ.alike Ar50.2.1) Ar50.2.2 hin50 hat50 (g := (mkF m 288 #[.val (.int p1), .val (.int p2), .val (.int p3), .val (.int p4), .val (.int b), .val (.ref b2), .val (.ref b14), .val (.int (Int32.ofNat f)), .val (.int (Int32.ofNat ct)), .val (.int sn), .val (.ref b26), .val (.int (Int32.ofNat (own_com Rf Of f 4 0 ct).length)), .val (.ref b36), .val (.int (Int32.ofNat (own_com Rf Of f 2 0 ct).length))] [(.int (2 : Int32)), (.ref b2), (.int (Int32.ofNat ct)), (.ref b14)])) rfl rfl (hb hby at_288)) ?_
      show Gl p e below P (T49.setTop (mkF m 289 #[.val (.int p1), .val (.int p2), .val (.int p3), .val (.int p4), .val (.int b), .val (.ref b2), .val (.ref b14), .val (.int (Int32.ofNat f)), .val (.int (Int32.ofNat ct)), .val (.int sn), .val (.ref b26), .val (.int (Int32.ofNat (own_com Rf Of f 4 0 ct).length)), .val (.ref b36), .val (.int (Int32.ofNat (own_com Rf Of f 2 0 ct).length))] [(.int r2), (.int (Int32.ofNat ct)), (.ref b14)]))
      rw [← eR2]
      show Gl p e below P (T49.setTop (mkF m 289 #[.val (.int p1), .val (.int p2), .val (.int p3), .val (.int p4), .val (.int b), .val (.ref b2), .val (.ref b14), .val (.int (Int32.ofNat f)), .val (.int (Int32.ofNat ct)), .val (.int sn), .val (.ref b26), .val (.int (Int32.ofNat (own_com Rf Of f 4 0 ct).length)), .val (.ref b36), .val (.int (Int32.ofNat (own_com Rf Of f 2 0 ct).length))] [(.int (Rf 2)), (.int (Int32.ofNat ct)), (.ref b14)]))
      by_cases hin : own_in Of 0 ct (Rf 2) = true
      · obtain ⟨_, _, ⟨T51, L51, k51, n51⟩, -, X51, ⟨Lc51, hQ51, l51, y51, z51⟩, st51⟩ := Jvm.LawKit.callS X49 hx (y := (⟨"com/example/vendace/vendace/service/SortedArraysIntersectPinLaw", "holds", "([III)Z"⟩ : MethodName)) hown (mvT hZ (hw _ (List.mem_of_getElem? (i := 13) rfl))) (mvT hZ (hw _ (List.mem_of_getElem? (i := 14) rfl))) (mvT hZ (hw _ (List.mem_of_getElem? (i := 15) rfl))) (mvT hZ (hw _ (List.mem_of_getElem? (i := 16) rfl))) (by decide) (backOf (W := 0) (rm26 l Z a0 hw [] b14 k14 Of ct (Rf 2) (1 : Int32) h49 n0 J49_Z J49_V_b14 hct (Or.inl ⟨hin, rfl⟩)) hZ (hw _ (List.mem_of_getElem? (i := 16) rfl)) (hw _ (List.mem_of_getElem? (i := 15) rfl)) (by decide) (by decide)) (g := (mkF m 289 #[.val (.int p1), .val (.int p2), .val (.int p3), .val (.int p4), .val (.int b), .val (.ref b2), .val (.ref b14), .val (.int (Int32.ofNat f)), .val (.int (Int32.ofNat ct)), .val (.int sn), .val (.ref b26), .val (.int (Int32.ofNat (own_com Rf Of f 4 0 ct).length)), .val (.ref b36), .val (.int (Int32.ofNat (own_com Rf Of f 2 0 ct).length))] [(.int (Rf 2)), (.int (Int32.ofNat ct)), (.ref b14)])) rfl (by rw [hml]; rfl) (argsL := [(.ref b14), (.int (Int32.ofNat ct)), (.int (Rf 2))]) (rest := []) (lenOf pd_6 rfl) rfl (by show 2 * 0 + _ ≤ _; exact Nat.le_of_eq rfl) (hb hby at_289) (fun _ _ => ⟨rfl, e49, (by decide : 4 + 0 ≤ _), (by decide : 16 + 0 ≤ _)⟩)
        dsimp only [Pt.U, Pt.locs, Pt.cells, Pt.slots] at X51 l51 y51 z51 st51 hQ51
        subst l51 y51 z51
        obtain ⟨rfl, N51q, e51⟩ := hQ51
        have N51 := Fr.app N49 N51q
        refine Gl.st st51 ?_
        show Gl p e below P (T51.setTop (mkF m 292 #[.val (.int p1), .val (.int p2), .val (.int p3), .val (.int p4), .val (.int b), .val (.ref b2), .val (.ref b14), .val (.int (Int32.ofNat f)), .val (.int (Int32.ofNat ct)), .val (.int sn), .val (.ref b26), .val (.int (Int32.ofNat (own_com Rf Of f 4 0 ct).length)), .val (.ref b36), .val (.int (Int32.ofNat (own_com Rf Of f 2 0 ct).length))] [(.int (1 : Int32))]))
        refine Gl.st (fun _ k => XS.ifNo X51.here hx rfl (hb hby at_292) rfl ((if0 _ _).trans (feq (by decide : ¬ ((1 : Int32) = (0 : Int32)))).1) k) ?_
        show Gl p e below P (T51.setTop (mkF m 295 #[.val (.int p1), .val (.int p2), .val (.int p3), .val (.int p4), .val (.int b), .val (.ref b2), .val (.ref b14), .val (.int (Int32.ofNat f)), .val (.int (Int32.ofNat ct)), .val (.int sn), .val (.ref b26), .val (.int (Int32.ofNat (own_com Rf Of f 4 0 ct).length)), .val (.ref b36), .val (.int (Int32.ofNat (own_com Rf Of f 2 0 ct).length))] []))
        refine Gl.st (fun _ k => XS.aload X51.here hx rfl (hb hby at_295) rfl rfl k) ?_
        show Gl p e below P (T51.setTop (mkF m 297 #[.val (.int p1), .val (.int p2), .val (.int p3), .val (.int p4), .val (.int b), .val (.ref b2), .val (.ref b14), .val (.int (Int32.ofNat f)), .val (.int (Int32.ofNat ct)), .val (.int sn), .val (.ref b26), .val (.int (Int32.ofNat (own_com Rf Of f 4 0 ct).length)), .val (.ref b36), .val (.int (Int32.ofNat (own_com Rf Of f 2 0 ct).length))] [(.ref b36)]))
        refine Gl.st (fun _ k => XS.iload X51.here hx rfl (hb hby at_297) rfl k) ?_
        show Gl p e below P (T51.setTop (mkF m 299 #[.val (.int p1), .val (.int p2), .val (.int p3), .val (.int p4), .val (.int b), .val (.ref b2), .val (.ref b14), .val (.int (Int32.ofNat f)), .val (.int (Int32.ofNat ct)), .val (.int sn), .val (.ref b26), .val (.int (Int32.ofNat (own_com Rf Of f 4 0 ct).length)), .val (.ref b36), .val (.int (Int32.ofNat (own_com Rf Of f 2 0 ct).length))] [(.int (Int32.ofNat (own_com Rf Of f 2 0 ct).length)), (.ref b36)]))
        refine Gl.st (fun _ k => XS.aload X51.here hx rfl (hb hby at_299) rfl rfl k) ?_
        show Gl p e below P (T51.setTop (mkF m 301 #[.val (.int p1), .val (.int p2), .val (.int p3), .val (.int p4), .val (.int b), .val (.ref b2), .val (.ref b14), .val (.int (Int32.ofNat f)), .val (.int (Int32.ofNat ct)), .val (.int sn), .val (.ref b26), .val (.int (Int32.ofNat (own_com Rf Of f 4 0 ct).length)), .val (.ref b36), .val (.int (Int32.ofNat (own_com Rf Of f 2 0 ct).length))] [(.ref b2), (.int (Int32.ofNat (own_com Rf Of f 2 0 ct).length)), (.ref b36)]))
        refine Gl.st (fun _ k => XS.iconst X51.here hx rfl (hb hby at_301) k) ?_
        show Gl p e below P (T51.setTop (mkF m 302 #[.val (.int p1), .val (.int p2), .val (.int p3), .val (.int p4), .val (.int b), .val (.ref b2), .val (.ref b14), .val (.int (Int32.ofNat f)), .val (.int (Int32.ofNat ct)), .val (.int sn), .val (.ref b26), .val (.int (Int32.ofNat (own_com Rf Of f 4 0 ct).length)), .val (.ref b36), .val (.int (Int32.ofNat (own_com Rf Of f 2 0 ct).length))] [(.int (2 : Int32)), (.ref b2), (.int (Int32.ofNat (own_com Rf Of f 2 0 ct).length)), (.ref b36)]))
        obtain ⟨c52, Ar52, q52, S52, M52, H52, U52⟩ := id J49_V_b2
        have hin52 : ¬ ((2 : Int32) < 0 ∨ c52.slots.size ≤ ((2 : Int32)).toNatClampNeg) := inb_of S52 ⟨(by decide), (by decide)⟩
        have hat52 : c52.slots[((2 : Int32)).toNatClampNeg]? = some (.int (Rf 2)) := H52.at hin52 (by exact own_get4 Rf 2 (by decide))
        refine Gl.st (X51.iaload hx (j := (2 : Int32)) (v := (.int (Rf 2))) (by rw [e51]; exact Ar52.1) (State.isArrayOf_alike hZ.alike Ar52.2.1) Ar52.2.2 hin52 hat52 (g := (mkF m 302 #[.val (.int p1), .val (.int p2), .val (.int p3), .val (.int p4), .val (.int b), .val (.ref b2), .val (.ref b14), .val (.int (Int32.ofNat f)), .val (.int (Int32.ofNat ct)), .val (.int sn), .val (.ref b26), .val (.int (Int32.ofNat (own_com Rf Of f 4 0 ct).length)), .val (.ref b36), .val (.int (Int32.ofNat (own_com Rf Of f 2 0 ct).length))] [(.int (2 : Int32)), (.ref b2), (.int (Int32.ofNat (own_com Rf Of f 2 0 ct).length)), (.ref b36)])) rfl rfl (hb hby at_302)) ?_
        show Gl p e below P (T51.setTop (mkF m 303 #[.val (.int p1), .val (.int p2), .val (.int p3), .val (.int p4), .val (.int b), .val (.ref b2), .val (.ref b14), .val (.int (Int32.ofNat f)), .val (.int (Int32.ofNat ct)), .val (.int sn), .val (.ref b26), .val (.int (Int32.ofNat (own_com Rf Of f 4 0 ct).length)), .val (.ref b36), .val (.int (Int32.ofNat (own_com Rf Of f 2 0 ct).length))] [(.int (Rf 2)), (.int (Int32.ofNat (own_com Rf Of f 2 0 ct).length)), (.ref b36)]))
        have cl := own_com_len Rf Of f 2 0 ct
        have hnx := own_com_in (W := Rf) (S := Of) (f := f) (i := 2) (lo := 0) (hi := ct) hfk hin
        obtain ⟨c53, Ar53, q53, S53, M53, H53, U53⟩ := id J49_V_b36
        obtain ⟨T54, h54, X54, e54, W54, st54⟩ := stI X51 hx hZ e51 Ar53 (j := (Int32.ofNat (own_com Rf Of f 2 0 ct).length)) (inb_of S53 ⟨own_neg _ (by omega), own_lt4 _ (by omega)⟩) (g := (mkF m 303 #[.val (.int p1), .val (.int p2), .val (.int p3), .val (.int p4), .val (.int b), .val (.ref b2), .val (.ref b14), .val (.int (Int32.ofNat f)), .val (.int (Int32.ofNat ct)), .val (.int sn), .val (.ref b26), .val (.int (Int32.ofNat (own_com Rf Of f 4 0 ct).length)), .val (.ref b36), .val (.int (Int32.ofNat (own_com Rf Of f 2 0 ct).length))] [(.int (Rf 2)), (.int (Int32.ofNat (own_com Rf Of f 2 0 ct).length)), (.ref b36)])) rfl rfl (hb hby at_303)
        refine Gl.st st54 ?_
        have J49_Z_v54 : n0 ≤ h54.size := Nat.le_trans J49_Z (Keep.of_wr W54).1
        have J49_V_b2_v54 : Arv Z h54 b2 k2 .int (4 : Int32) (own_v4 Rf) (.int (0 : Int32)) := J49_V_b2.other W54 ne_b2_b36
        have J49_V_b14_v54 : Arv Z h54 b14 k14 .int (4 : Int32) (own_v4 Of) (.int (0 : Int32)) := J49_V_b14.other W54 ne_b14_b36
        have J49_V_b26_v54 : Arv Z h54 b26 k26 .int (4 : Int32) (own_v4 (own_into (own_com Rf Of f 4 0 ct) (fun _ => sn))) (.int (0 : Int32)) := J49_V_b26.other W54 ne_b26_b36
        have VN : Arv Z h54 b36 k36 .int (4 : Int32) ((own_v4 (own_into (own_com Rf Of f 2 0 ct) (fun _ => (0 : Int32)))).set (own_com Rf Of f 2 0 ct).length (.int (Rf 2))) (.int (0 : Int32)) := Arv.set Ar53 q53 S53 M53 H53 U53 rfl W54 _ (own_nn _ (by omega)) (show _ < 4 by omega)
        rw [own_set4 _ _ (by omega), own_into_snoc, ← hnx] at VN
        have N54 := Fr.snoc X54 N51 g_b36
        show Gl p e below P (T54.setTop (mkF m 304 #[.val (.int p1), .val (.int p2), .val (.int p3), .val (.int p4), .val (.int b), .val (.ref b2), .val (.ref b14), .val (.int (Int32.ofNat f)), .val (.int (Int32.ofNat ct)), .val (.int sn), .val (.ref b26), .val (.int (Int32.ofNat (own_com Rf Of f 4 0 ct).length)), .val (.ref b36), .val (.int (Int32.ofNat (own_com Rf Of f 2 0 ct).length))] []))
        refine Gl.st (fun _ k => XS.iinc X54.here hx rfl (hb hby at_304) rfl (l' := #[.val (.int p1), .val (.int p2), .val (.int p3), .val (.int p4), .val (.int b), .val (.ref b2), .val (.ref b14), .val (.int (Int32.ofNat f)), .val (.int (Int32.ofNat ct)), .val (.int sn), .val (.ref b26), .val (.int (Int32.ofNat (own_com Rf Of f 4 0 ct).length)), .val (.ref b36), .val (.int ((Int32.ofNat (own_com Rf Of f 2 0 ct).length) + (1 : Int32)))]) rfl k) ?_
        show Gl p e below P (T54.setTop (mkF m 307 #[.val (.int p1), .val (.int p2), .val (.int p3), .val (.int p4), .val (.int b), .val (.ref b2), .val (.ref b14), .val (.int (Int32.ofNat f)), .val (.int (Int32.ofNat ct)), .val (.int sn), .val (.ref b26), .val (.int (Int32.ofNat (own_com Rf Of f 4 0 ct).length)), .val (.ref b36), .val (.int ((Int32.ofNat (own_com Rf Of f 2 0 ct).length) + (1 : Int32)))] []))
        have hlen : Int32.ofNat (own_com Rf Of f 2 0 ct).length + (1 : Int32) = Int32.ofNat (own_com Rf Of f 3 0 ct).length := by rw [own_s, hnx, List.length_append]; rfl
        rw [hlen]
        show Gl p e below P (T54.setTop (mkF m 307 #[.val (.int p1), .val (.int p2), .val (.int p3), .val (.int p4), .val (.int b), .val (.ref b2), .val (.ref b14), .val (.int (Int32.ofNat f)), .val (.int (Int32.ofNat ct)), .val (.int sn), .val (.ref b26), .val (.int (Int32.ofNat (own_com Rf Of f 4 0 ct).length)), .val (.ref b36), .val (.int (Int32.ofNat (own_com Rf Of f 3 0 ct).length))] []))
        exact J3 T54 _ _ (X54.mono (by decide) (by decide)) e54 N54 J49_Z_v54 J49_V_b2_v54 J49_V_b14_v54 J49_V_b26_v54 VN
      · obtain ⟨_, _, ⟨T55, L55, k55, n55⟩, -, X55, ⟨Lc55, hQ55, l55, y55, z55⟩, st55⟩ := Jvm.LawKit.callS X49 hx (y := (⟨"com/example/vendace/vendace/service/SortedArraysIntersectPinLaw", "holds", "([III)Z"⟩ : MethodName)) hown (mvT hZ (hw _ (List.mem_of_getElem? (i := 13) rfl))) (mvT hZ (hw _ (List.mem_of_getElem? (i := 14) rfl))) (mvT hZ (hw _ (List.mem_of_getElem? (i := 15) rfl))) (mvT hZ (hw _ (List.mem_of_getElem? (i := 16) rfl))) (by decide) (backOf (W := 0) (rm26 l Z a0 hw [] b14 k14 Of ct (Rf 2) (0 : Int32) h49 n0 J49_Z J49_V_b14 hct (Or.inr ⟨hin, rfl⟩)) hZ (hw _ (List.mem_of_getElem? (i := 16) rfl)) (hw _ (List.mem_of_getElem? (i := 15) rfl)) (by decide) (by decide)) (g := (mkF m 289 #[.val (.int p1), .val (.int p2), .val (.int p3), .val (.int p4), .val (.int b), .val (.ref b2), .val (.ref b14), .val (.int (Int32.ofNat f)), .val (.int (Int32.ofNat ct)), .val (.int sn), .val (.ref b26), .val (.int (Int32.ofNat (own_com Rf Of f 4 0 ct).length)), .val (.ref b36), .val (.int (Int32.ofNat (own_com Rf Of f 2 0 ct).length))] [(.int (Rf 2)), (.int (Int32.ofNat ct)), (.ref b14)])) rfl (by rw [hml]; rfl) (argsL := [(.ref b14), (.int (Int32.ofNat ct)), (.int (Rf 2))]) (rest := []) (lenOf pd_6 rfl) rfl (by show 2 * 0 + _ ≤ _; exact Nat.le_of_eq rfl) (hb hby at_289) (fun _ _ => ⟨rfl, e49, (by decide : 4 + 0 ≤ _), (by decide : 16 + 0 ≤ _)⟩)
        dsimp only [Pt.U, Pt.locs, Pt.cells, Pt.slots] at X55 l55 y55 z55 st55 hQ55
        subst l55 y55 z55
        obtain ⟨rfl, N55q, e55⟩ := hQ55
        have N55 := Fr.app N49 N55q
        refine Gl.st st55 ?_
        show Gl p e below P (T55.setTop (mkF m 292 #[.val (.int p1), .val (.int p2), .val (.int p3), .val (.int p4), .val (.int b), .val (.ref b2), .val (.ref b14), .val (.int (Int32.ofNat f)), .val (.int (Int32.ofNat ct)), .val (.int sn), .val (.ref b26), .val (.int (Int32.ofNat (own_com Rf Of f 4 0 ct).length)), .val (.ref b36), .val (.int (Int32.ofNat (own_com Rf Of f 2 0 ct).length))] [(.int (0 : Int32))]))
        refine Gl.st (fun _ k => XS.ifYes X55.here hx rfl (pc0 := 292) (pc' := 307) rfl (hb hby at_292) rfl ((if0 _ _).trans (teq (by decide : (0 : Int32) = (0 : Int32))).1) (by decide) (by decide) k) ?_
        show Gl p e below P (T55.setTop (mkF m 307 #[.val (.int p1), .val (.int p2), .val (.int p3), .val (.int p4), .val (.int b), .val (.ref b2), .val (.ref b14), .val (.int (Int32.ofNat f)), .val (.int (Int32.ofNat ct)), .val (.int sn), .val (.ref b26), .val (.int (Int32.ofNat (own_com Rf Of f 4 0 ct).length)), .val (.ref b36), .val (.int (Int32.ofNat (own_com Rf Of f 2 0 ct).length))] []))
        have hnx := own_com_out (W := Rf) (S := Of) (f := f) (i := 2) (lo := 0) (hi := ct) (fun q => hin q.2)
        rw [← hnx]
        show Gl p e below P (T55.setTop (mkF m 307 #[.val (.int p1), .val (.int p2), .val (.int p3), .val (.int p4), .val (.int b), .val (.ref b2), .val (.ref b14), .val (.int (Int32.ofNat f)), .val (.int (Int32.ofNat ct)), .val (.int sn), .val (.ref b26), .val (.int (Int32.ofNat (own_com Rf Of f 4 0 ct).length)), .val (.ref b36), .val (.int (Int32.ofNat (own_com Rf Of f 3 0 ct).length))] []))
        have VN := J49_V_b36
        rw [← hnx] at VN
        exact J3 T55 _ _ (X55.mono (by decide) (by decide)) e55 N55 J49_Z J49_V_b2 J49_V_b14 J49_V_b26 VN
    · refine Gl.st (fun _ k => XS.icmpYes X49.here hx rfl (pc0 := 278) (pc' := 307) rfl (hb hby at_278) rfl (tlt ((own_lt 2 f (by omega) (by omega)).mpr (by omega) : (2 : Int32) < (Int32.ofNat f))).2.2.1 (by decide) (by decide) k) ?_
      show Gl p e below P (T49.setTop (mkF m 307 #[.val (.int p1), .val (.int p2), .val (.int p3), .val (.int p4), .val (.int b), .val (.ref b2), .val (.ref b14), .val (.int (Int32.ofNat f)), .val (.int (Int32.ofNat ct)), .val (.int sn), .val (.ref b26), .val (.int (Int32.ofNat (own_com Rf Of f 4 0 ct).length)), .val (.ref b36), .val (.int (Int32.ofNat (own_com Rf Of f 2 0 ct).length))] []))
      have hnx := own_com_out (W := Rf) (S := Of) (f := f) (i := 2) (lo := 0) (hi := ct) (fun q => hfk q.1)
      rw [← hnx]
      show Gl p e below P (T49.setTop (mkF m 307 #[.val (.int p1), .val (.int p2), .val (.int p3), .val (.int p4), .val (.int b), .val (.ref b2), .val (.ref b14), .val (.int (Int32.ofNat f)), .val (.int (Int32.ofNat ct)), .val (.int sn), .val (.ref b26), .val (.int (Int32.ofNat (own_com Rf Of f 4 0 ct).length)), .val (.ref b36), .val (.int (Int32.ofNat (own_com Rf Of f 3 0 ct).length))] []))
      have VN := J49_V_b36
      rw [← hnx] at VN
      exact J3 T49 _ _ (X49.mono (by decide) (by decide)) e49 N49 J49_Z J49_V_b2 J49_V_b14 J49_V_b26 VN
  have J1 : ∀ (T56 : State) (locs56 : List Loc) (h56 : Heap), Stand p l e room_1 s m #[(.int p1), (.int p2), (.int p3), (.int p4)] below meth c T56 locs56 4 16 → T56.heap = h56 → Fr n0 locs56 → n0 ≤ h56.size → Arv Z h56 b2 k2 .int (4 : Int32) (own_v4 Rf) (.int (0 : Int32)) → Arv Z h56 b14 k14 .int (4 : Int32) (own_v4 Of) (.int (0 : Int32)) → Arv Z h56 b26 k26 .int (4 : Int32) (own_v4 (own_into (own_com Rf Of f 4 0 ct) (fun _ => sn))) (.int (0 : Int32)) → Arv Z h56 b36 k36 .int (4 : Int32) (own_v4 (own_into (own_com Rf Of f 1 0 ct) (fun _ => (0 : Int32)))) (.int (0 : Int32)) → Gl p e below P (T56.setTop (mkF m 243 #[.val (.int p1), .val (.int p2), .val (.int p3), .val (.int p4), .val (.int b), .val (.ref b2), .val (.ref b14), .val (.int (Int32.ofNat f)), .val (.int (Int32.ofNat ct)), .val (.int sn), .val (.ref b26), .val (.int (Int32.ofNat (own_com Rf Of f 4 0 ct).length)), .val (.ref b36), .val (.int (Int32.ofNat (own_com Rf Of f 1 0 ct).length))] [])) := by
    intro T56 locs56 h56 X56 e56 N56 J56_Z J56_V_b2 J56_V_b14 J56_V_b26 J56_V_b36
    show Gl p e below P (T56.setTop (mkF m 243 #[.val (.int p1), .val (.int p2), .val (.int p3), .val (.int p4), .val (.int b), .val (.ref b2), .val (.ref b14), .val (.int (Int32.ofNat f)), .val (.int (Int32.ofNat ct)), .val (.int sn), .val (.ref b26), .val (.int (Int32.ofNat (own_com Rf Of f 4 0 ct).length)), .val (.ref b36), .val (.int (Int32.ofNat (own_com Rf Of f 1 0 ct).length))] []))
    refine Gl.st (fun _ k => XS.iload X56.here hx rfl (hb hby at_243) rfl k) ?_
    show Gl p e below P (T56.setTop (mkF m 245 #[.val (.int p1), .val (.int p2), .val (.int p3), .val (.int p4), .val (.int b), .val (.ref b2), .val (.ref b14), .val (.int (Int32.ofNat f)), .val (.int (Int32.ofNat ct)), .val (.int sn), .val (.ref b26), .val (.int (Int32.ofNat (own_com Rf Of f 4 0 ct).length)), .val (.ref b36), .val (.int (Int32.ofNat (own_com Rf Of f 1 0 ct).length))] [(.int (Int32.ofNat f))]))
    refine Gl.st (fun _ k => XS.iconst X56.here hx rfl (hb hby at_245) k) ?_
    show Gl p e below P (T56.setTop (mkF m 246 #[.val (.int p1), .val (.int p2), .val (.int p3), .val (.int p4), .val (.int b), .val (.ref b2), .val (.ref b14), .val (.int (Int32.ofNat f)), .val (.int (Int32.ofNat ct)), .val (.int sn), .val (.ref b26), .val (.int (Int32.ofNat (own_com Rf Of f 4 0 ct).length)), .val (.ref b36), .val (.int (Int32.ofNat (own_com Rf Of f 1 0 ct).length))] [(.int (1 : Int32)), (.int (Int32.ofNat f))]))
    by_cases hfk : f ≤ 1
    · refine Gl.st (fun _ k => XS.icmpNo X56.here hx rfl (hb hby at_246) rfl (flt ((fun q => absurd ((own_lt 1 f (by omega) (by omega)).mp q) (by omega)) : ¬ ((1 : Int32) < (Int32.ofNat f)))).2.2.1 k) ?_
      show Gl p e below P (T56.setTop (mkF m 249 #[.val (.int p1), .val (.int p2), .val (.int p3), .val (.int p4), .val (.int b), .val (.ref b2), .val (.ref b14), .val (.int (Int32.ofNat f)), .val (.int (Int32.ofNat ct)), .val (.int sn), .val (.ref b26), .val (.int (Int32.ofNat (own_com Rf Of f 4 0 ct).length)), .val (.ref b36), .val (.int (Int32.ofNat (own_com Rf Of f 1 0 ct).length))] []))
      refine Gl.st (fun _ k => XS.aload X56.here hx rfl (hb hby at_249) rfl rfl k) ?_
      show Gl p e below P (T56.setTop (mkF m 251 #[.val (.int p1), .val (.int p2), .val (.int p3), .val (.int p4), .val (.int b), .val (.ref b2), .val (.ref b14), .val (.int (Int32.ofNat f)), .val (.int (Int32.ofNat ct)), .val (.int sn), .val (.ref b26), .val (.int (Int32.ofNat (own_com Rf Of f 4 0 ct).length)), .val (.ref b36), .val (.int (Int32.ofNat (own_com Rf Of f 1 0 ct).length))] [(.ref b14)]))
      refine Gl.st (fun _ k => XS.iload X56.here hx rfl (hb hby at_251) rfl k) ?_
      show Gl p e below P (T56.setTop (mkF m 253 #[.val (.int p1), .val (.int p2), .val (.int p3), .val (.int p4), .val (.int b), .val (.ref b2), .val (.ref b14), .val (.int (Int32.ofNat f)), .val (.int (Int32.ofNat ct)), .val (.int sn), .val (.ref b26), .val (.int (Int32.ofNat (own_com Rf Of f 4 0 ct).length)), .val (.ref b36), .val (.int (Int32.ofNat (own_com Rf Of f 1 0 ct).length))] [(.int (Int32.ofNat ct)), (.ref b14)]))
      refine Gl.st (fun _ k => XS.aload X56.here hx rfl (hb hby at_253) rfl rfl k) ?_
      show Gl p e below P (T56.setTop (mkF m 255 #[.val (.int p1), .val (.int p2), .val (.int p3), .val (.int p4), .val (.int b), .val (.ref b2), .val (.ref b14), .val (.int (Int32.ofNat f)), .val (.int (Int32.ofNat ct)), .val (.int sn), .val (.ref b26), .val (.int (Int32.ofNat (own_com Rf Of f 4 0 ct).length)), .val (.ref b36), .val (.int (Int32.ofNat (own_com Rf Of f 1 0 ct).length))] [(.ref b2), (.int (Int32.ofNat ct)), (.ref b14)]))
      refine Gl.st (fun _ k => XS.iconst X56.here hx rfl (hb hby at_255) k) ?_
      show Gl p e below P (T56.setTop (mkF m 256 #[.val (.int p1), .val (.int p2), .val (.int p3), .val (.int p4), .val (.int b), .val (.ref b2), .val (.ref b14), .val (.int (Int32.ofNat f)), .val (.int (Int32.ofNat ct)), .val (.int sn), .val (.ref b26), .val (.int (Int32.ofNat (own_com Rf Of f 4 0 ct).length)), .val (.ref b36), .val (.int (Int32.ofNat (own_com Rf Of f 1 0 ct).length))] [(.int (1 : Int32)), (.ref b2), (.int (Int32.ofNat ct)), (.ref b14)]))
      obtain ⟨c57, Ar57, q57, S57, M57, H57, U57⟩ := id J56_V_b2
      have hin57 : ¬ ((1 : Int32) < 0 ∨ c57.slots.size ≤ ((1 : Int32)).toNatClampNeg) := inb_of S57 ⟨(by decide), (by decide)⟩
      have hat57 : c57.slots[((1 : Int32)).toNatClampNeg]? = some (.int r1) := H57.at hin57 (by rw [← eR1]; exact own_get4 Rf 1 (by decide))
      refine Gl.st (X56.iaload hx (j := (1 : Int32)) (v := (.int r1)) (by rw [e56]; exact Ar57.1) (State.isArrayOf_alike hZ.alike Ar57.2.1) Ar57.2.2 hin57 hat57 (g := (mkF m 256 #[.val (.int p1), .val (.int p2), .val (.int p3), .val (.int p4), .val (.int b), .val (.ref b2), .val (.ref b14), .val (.int (Int32.ofNat f)), .val (.int (Int32.ofNat ct)), .val (.int sn), .val (.ref b26), .val (.int (Int32.ofNat (own_com Rf Of f 4 0 ct).length)), .val (.ref b36), .val (.int (Int32.ofNat (own_com Rf Of f 1 0 ct).length))] [(.int (1 : Int32)), (.ref b2), (.int (Int32.ofNat ct)), (.ref b14)])) rfl rfl (hb hby at_256)) ?_
      show Gl p e below P (T56.setTop (mkF m 257 #[.val (.int p1), .val (.int p2), .val (.int p3), .val (.int p4), .val (.int b), .val (.ref b2), .val (.ref b14), .val (.int (Int32.ofNat f)), .val (.int (Int32.ofNat ct)), .val (.int sn), .val (.ref b26), .val (.int (Int32.ofNat (own_com Rf Of f 4 0 ct).length)), .val (.ref b36), .val (.int (Int32.ofNat (own_com Rf Of f 1 0 ct).length))] [(.int r1), (.int (Int32.ofNat ct)), (.ref b14)]))
      rw [← eR1]
      show Gl p e below P (T56.setTop (mkF m 257 #[.val (.int p1), .val (.int p2), .val (.int p3), .val (.int p4), .val (.int b), .val (.ref b2), .val (.ref b14), .val (.int (Int32.ofNat f)), .val (.int (Int32.ofNat ct)), .val (.int sn), .val (.ref b26), .val (.int (Int32.ofNat (own_com Rf Of f 4 0 ct).length)), .val (.ref b36), .val (.int (Int32.ofNat (own_com Rf Of f 1 0 ct).length))] [(.int (Rf 1)), (.int (Int32.ofNat ct)), (.ref b14)]))
      by_cases hin : own_in Of 0 ct (Rf 1) = true
      · obtain ⟨_, _, ⟨T58, L58, k58, n58⟩, -, X58, ⟨Lc58, hQ58, l58, y58, z58⟩, st58⟩ := Jvm.LawKit.callS X56 hx (y := (⟨"com/example/vendace/vendace/service/SortedArraysIntersectPinLaw", "holds", "([III)Z"⟩ : MethodName)) hown (mvT hZ (hw _ (List.mem_of_getElem? (i := 13) rfl))) (mvT hZ (hw _ (List.mem_of_getElem? (i := 14) rfl))) (mvT hZ (hw _ (List.mem_of_getElem? (i := 15) rfl))) (mvT hZ (hw _ (List.mem_of_getElem? (i := 16) rfl))) (by decide) (backOf (W := 0) (rm26 l Z a0 hw [] b14 k14 Of ct (Rf 1) (1 : Int32) h56 n0 J56_Z J56_V_b14 hct (Or.inl ⟨hin, rfl⟩)) hZ (hw _ (List.mem_of_getElem? (i := 16) rfl)) (hw _ (List.mem_of_getElem? (i := 15) rfl)) (by decide) (by decide)) (g := (mkF m 257 #[.val (.int p1), .val (.int p2), .val (.int p3), .val (.int p4), .val (.int b), .val (.ref b2), .val (.ref b14), .val (.int (Int32.ofNat f)), .val (.int (Int32.ofNat ct)), .val (.int sn), .val (.ref b26), .val (.int (Int32.ofNat (own_com Rf Of f 4 0 ct).length)), .val (.ref b36), .val (.int (Int32.ofNat (own_com Rf Of f 1 0 ct).length))] [(.int (Rf 1)), (.int (Int32.ofNat ct)), (.ref b14)])) rfl (by rw [hml]; rfl) (argsL := [(.ref b14), (.int (Int32.ofNat ct)), (.int (Rf 1))]) (rest := []) (lenOf pd_6 rfl) rfl (by show 2 * 0 + _ ≤ _; exact Nat.le_of_eq rfl) (hb hby at_257) (fun _ _ => ⟨rfl, e56, (by decide : 4 + 0 ≤ _), (by decide : 16 + 0 ≤ _)⟩)
        dsimp only [Pt.U, Pt.locs, Pt.cells, Pt.slots] at X58 l58 y58 z58 st58 hQ58
        subst l58 y58 z58
        obtain ⟨rfl, N58q, e58⟩ := hQ58
        have N58 := Fr.app N56 N58q
        refine Gl.st st58 ?_
        show Gl p e below P (T58.setTop (mkF m 260 #[.val (.int p1), .val (.int p2), .val (.int p3), .val (.int p4), .val (.int b), .val (.ref b2), .val (.ref b14), .val (.int (Int32.ofNat f)), .val (.int (Int32.ofNat ct)), .val (.int sn), .val (.ref b26), .val (.int (Int32.ofNat (own_com Rf Of f 4 0 ct).length)), .val (.ref b36), .val (.int (Int32.ofNat (own_com Rf Of f 1 0 ct).length))] [(.int (1 : Int32))]))
        refine Gl.st (fun _ k => XS.ifNo X58.here hx rfl (hb hby at_260) rfl ((if0 _ _).trans (feq (by decide : ¬ ((1 : Int32) = (0 : Int32)))).1) k) ?_
        show Gl p e below P (T58.setTop (mkF m 263 #[.val (.int p1), .val (.int p2), .val (.int p3), .val (.int p4), .val (.int b), .val (.ref b2), .val (.ref b14), .val (.int (Int32.ofNat f)), .val (.int (Int32.ofNat ct)), .val (.int sn), .val (.ref b26), .val (.int (Int32.ofNat (own_com Rf Of f 4 0 ct).length)), .val (.ref b36), .val (.int (Int32.ofNat (own_com Rf Of f 1 0 ct).length))] []))
        refine Gl.st (fun _ k => XS.aload X58.here hx rfl (hb hby at_263) rfl rfl k) ?_
        show Gl p e below P (T58.setTop (mkF m 265 #[.val (.int p1), .val (.int p2), .val (.int p3), .val (.int p4), .val (.int b), .val (.ref b2), .val (.ref b14), .val (.int (Int32.ofNat f)), .val (.int (Int32.ofNat ct)), .val (.int sn), .val (.ref b26), .val (.int (Int32.ofNat (own_com Rf Of f 4 0 ct).length)), .val (.ref b36), .val (.int (Int32.ofNat (own_com Rf Of f 1 0 ct).length))] [(.ref b36)]))
        refine Gl.st (fun _ k => XS.iload X58.here hx rfl (hb hby at_265) rfl k) ?_
        show Gl p e below P (T58.setTop (mkF m 267 #[.val (.int p1), .val (.int p2), .val (.int p3), .val (.int p4), .val (.int b), .val (.ref b2), .val (.ref b14), .val (.int (Int32.ofNat f)), .val (.int (Int32.ofNat ct)), .val (.int sn), .val (.ref b26), .val (.int (Int32.ofNat (own_com Rf Of f 4 0 ct).length)), .val (.ref b36), .val (.int (Int32.ofNat (own_com Rf Of f 1 0 ct).length))] [(.int (Int32.ofNat (own_com Rf Of f 1 0 ct).length)), (.ref b36)]))
        refine Gl.st (fun _ k => XS.aload X58.here hx rfl (hb hby at_267) rfl rfl k) ?_
        show Gl p e below P (T58.setTop (mkF m 269 #[.val (.int p1), .val (.int p2), .val (.int p3), .val (.int p4), .val (.int b), .val (.ref b2), .val (.ref b14), .val (.int (Int32.ofNat f)), .val (.int (Int32.ofNat ct)), .val (.int sn), .val (.ref b26), .val (.int (Int32.ofNat (own_com Rf Of f 4 0 ct).length)), .val (.ref b36), .val (.int (Int32.ofNat (own_com Rf Of f 1 0 ct).length))] [(.ref b2), (.int (Int32.ofNat (own_com Rf Of f 1 0 ct).length)), (.ref b36)]))
        refine Gl.st (fun _ k => XS.iconst X58.here hx rfl (hb hby at_269) k) ?_
        show Gl p e below P (T58.setTop (mkF m 270 #[.val (.int p1), .val (.int p2), .val (.int p3), .val (.int p4), .val (.int b), .val (.ref b2), .val (.ref b14), .val (.int (Int32.ofNat f)), .val (.int (Int32.ofNat ct)), .val (.int sn), .val (.ref b26), .val (.int (Int32.ofNat (own_com Rf Of f 4 0 ct).length)), .val (.ref b36), .val (.int (Int32.ofNat (own_com Rf Of f 1 0 ct).length))] [(.int (1 : Int32)), (.ref b2), (.int (Int32.ofNat (own_com Rf Of f 1 0 ct).length)), (.ref b36)]))
        obtain ⟨c59, Ar59, q59, S59, M59, H59, U59⟩ := id J56_V_b2
        have hin59 : ¬ ((1 : Int32) < 0 ∨ c59.slots.size ≤ ((1 : Int32)).toNatClampNeg) := inb_of S59 ⟨(by decide), (by decide)⟩
        have hat59 : c59.slots[((1 : Int32)).toNatClampNeg]? = some (.int (Rf 1)) := H59.at hin59 (by exact own_get4 Rf 1 (by decide))
        refine Gl.st (X58.iaload hx (j := (1 : Int32)) (v := (.int (Rf 1))) (by rw [e58]; exact Ar59.1) (State.isArrayOf_alike hZ.alike Ar59.2.1) Ar59.2.2 hin59 hat59 (g := (mkF m 270 #[.val (.int p1), .val (.int p2), .val (.int p3), .val (.int p4), .val (.int b), .val (.ref b2), .val (.ref b14), .val (.int (Int32.ofNat f)), .val (.int (Int32.ofNat ct)), .val (.int sn), .val (.ref b26), .val (.int (Int32.ofNat (own_com Rf Of f 4 0 ct).length)), .val (.ref b36), .val (.int (Int32.ofNat (own_com Rf Of f 1 0 ct).length))] [(.int (1 : Int32)), (.ref b2), (.int (Int32.ofNat (own_com Rf Of f 1 0 ct).length)), (.ref b36)])) rfl rfl (hb hby at_270)) ?_
        show Gl p e below P (T58.setTop (mkF m 271 #[.val (.int p1), .val (.int p2), .val (.int p3), .val (.int p4), .val (.int b), .val (.ref b2), .val (.ref b14), .val (.int (Int32.ofNat f)), .val (.int (Int32.ofNat ct)), .val (.int sn), .val (.ref b26), .val (.int (Int32.ofNat (own_com Rf Of f 4 0 ct).length)), .val (.ref b36), .val (.int (Int32.ofNat (own_com Rf Of f 1 0 ct).length))] [(.int (Rf 1)), (.int (Int32.ofNat (own_com Rf Of f 1 0 ct).length)), (.ref b36)]))
        have cl := own_com_len Rf Of f 1 0 ct
        have hnx := own_com_in (W := Rf) (S := Of) (f := f) (i := 1) (lo := 0) (hi := ct) hfk hin
        obtain ⟨c60, Ar60, q60, S60, M60, H60, U60⟩ := id J56_V_b36
        obtain ⟨T61, h61, X61, e61, W61, st61⟩ := stI X58 hx hZ e58 Ar60 (j := (Int32.ofNat (own_com Rf Of f 1 0 ct).length)) (inb_of S60 ⟨own_neg _ (by omega), own_lt4 _ (by omega)⟩) (g := (mkF m 271 #[.val (.int p1), .val (.int p2), .val (.int p3), .val (.int p4), .val (.int b), .val (.ref b2), .val (.ref b14), .val (.int (Int32.ofNat f)), .val (.int (Int32.ofNat ct)), .val (.int sn), .val (.ref b26), .val (.int (Int32.ofNat (own_com Rf Of f 4 0 ct).length)), .val (.ref b36), .val (.int (Int32.ofNat (own_com Rf Of f 1 0 ct).length))] [(.int (Rf 1)), (.int (Int32.ofNat (own_com Rf Of f 1 0 ct).length)), (.ref b36)])) rfl rfl (hb hby at_271)
        refine Gl.st st61 ?_
        have J56_Z_v61 : n0 ≤ h61.size := Nat.le_trans J56_Z (Keep.of_wr W61).1
        have J56_V_b2_v61 : Arv Z h61 b2 k2 .int (4 : Int32) (own_v4 Rf) (.int (0 : Int32)) := J56_V_b2.other W61 ne_b2_b36
        have J56_V_b14_v61 : Arv Z h61 b14 k14 .int (4 : Int32) (own_v4 Of) (.int (0 : Int32)) := J56_V_b14.other W61 ne_b14_b36
        have J56_V_b26_v61 : Arv Z h61 b26 k26 .int (4 : Int32) (own_v4 (own_into (own_com Rf Of f 4 0 ct) (fun _ => sn))) (.int (0 : Int32)) := J56_V_b26.other W61 ne_b26_b36
        have VN : Arv Z h61 b36 k36 .int (4 : Int32) ((own_v4 (own_into (own_com Rf Of f 1 0 ct) (fun _ => (0 : Int32)))).set (own_com Rf Of f 1 0 ct).length (.int (Rf 1))) (.int (0 : Int32)) := Arv.set Ar60 q60 S60 M60 H60 U60 rfl W61 _ (own_nn _ (by omega)) (show _ < 4 by omega)
        rw [own_set4 _ _ (by omega), own_into_snoc, ← hnx] at VN
        have N61 := Fr.snoc X61 N58 g_b36
        show Gl p e below P (T61.setTop (mkF m 272 #[.val (.int p1), .val (.int p2), .val (.int p3), .val (.int p4), .val (.int b), .val (.ref b2), .val (.ref b14), .val (.int (Int32.ofNat f)), .val (.int (Int32.ofNat ct)), .val (.int sn), .val (.ref b26), .val (.int (Int32.ofNat (own_com Rf Of f 4 0 ct).length)), .val (.ref b36), .val (.int (Int32.ofNat (own_com Rf Of f 1 0 ct).length))] []))
        refine Gl.st (fun _ k => XS.iinc X61.here hx rfl (hb hby at_272) rfl (l' := #[.val (.int p1), .val (.int p2), .val (.int p3), .val (.int p4), .val (.int b), .val (.ref b2), .val (.ref b14), .val (.int (Int32.ofNat f)), .val (.int (Int32.ofNat ct)), .val (.int sn), .val (.ref b26), .val (.int (Int32.ofNat (own_com Rf Of f 4 0 ct).length)), .val (.ref b36), .val (.int ((Int32.ofNat (own_com Rf Of f 1 0 ct).length) + (1 : Int32)))]) rfl k) ?_
        show Gl p e below P (T61.setTop (mkF m 275 #[.val (.int p1), .val (.int p2), .val (.int p3), .val (.int p4), .val (.int b), .val (.ref b2), .val (.ref b14), .val (.int (Int32.ofNat f)), .val (.int (Int32.ofNat ct)), .val (.int sn), .val (.ref b26), .val (.int (Int32.ofNat (own_com Rf Of f 4 0 ct).length)), .val (.ref b36), .val (.int ((Int32.ofNat (own_com Rf Of f 1 0 ct).length) + (1 : Int32)))] []))
        have hlen : Int32.ofNat (own_com Rf Of f 1 0 ct).length + (1 : Int32) = Int32.ofNat (own_com Rf Of f 2 0 ct).length := by rw [own_s, hnx, List.length_append]; rfl
        rw [hlen]
        show Gl p e below P (T61.setTop (mkF m 275 #[.val (.int p1), .val (.int p2), .val (.int p3), .val (.int p4), .val (.int b), .val (.ref b2), .val (.ref b14), .val (.int (Int32.ofNat f)), .val (.int (Int32.ofNat ct)), .val (.int sn), .val (.ref b26), .val (.int (Int32.ofNat (own_com Rf Of f 4 0 ct).length)), .val (.ref b36), .val (.int (Int32.ofNat (own_com Rf Of f 2 0 ct).length))] []))
        exact J2 T61 _ _ (X61.mono (by decide) (by decide)) e61 N61 J56_Z_v61 J56_V_b2_v61 J56_V_b14_v61 J56_V_b26_v61 VN
      · obtain ⟨_, _, ⟨T62, L62, k62, n62⟩, -, X62, ⟨Lc62, hQ62, l62, y62, z62⟩, st62⟩ := Jvm.LawKit.callS X56 hx (y := (⟨"com/example/vendace/vendace/service/SortedArraysIntersectPinLaw", "holds", "([III)Z"⟩ : MethodName)) hown (mvT hZ (hw _ (List.mem_of_getElem? (i := 13) rfl))) (mvT hZ (hw _ (List.mem_of_getElem? (i := 14) rfl))) (mvT hZ (hw _ (List.mem_of_getElem? (i := 15) rfl))) (mvT hZ (hw _ (List.mem_of_getElem? (i := 16) rfl))) (by decide) (backOf (W := 0) (rm26 l Z a0 hw [] b14 k14 Of ct (Rf 1) (0 : Int32) h56 n0 J56_Z J56_V_b14 hct (Or.inr ⟨hin, rfl⟩)) hZ (hw _ (List.mem_of_getElem? (i := 16) rfl)) (hw _ (List.mem_of_getElem? (i := 15) rfl)) (by decide) (by decide)) (g := (mkF m 257 #[.val (.int p1), .val (.int p2), .val (.int p3), .val (.int p4), .val (.int b), .val (.ref b2), .val (.ref b14), .val (.int (Int32.ofNat f)), .val (.int (Int32.ofNat ct)), .val (.int sn), .val (.ref b26), .val (.int (Int32.ofNat (own_com Rf Of f 4 0 ct).length)), .val (.ref b36), .val (.int (Int32.ofNat (own_com Rf Of f 1 0 ct).length))] [(.int (Rf 1)), (.int (Int32.ofNat ct)), (.ref b14)])) rfl (by rw [hml]; rfl) (argsL := [(.ref b14), (.int (Int32.ofNat ct)), (.int (Rf 1))]) (rest := []) (lenOf pd_6 rfl) rfl (by show 2 * 0 + _ ≤ _; exact Nat.le_of_eq rfl) (hb hby at_257) (fun _ _ => ⟨rfl, e56, (by decide : 4 + 0 ≤ _), (by decide : 16 + 0 ≤ _)⟩)
        dsimp only [Pt.U, Pt.locs, Pt.cells, Pt.slots] at X62 l62 y62 z62 st62 hQ62
        subst l62 y62 z62
        obtain ⟨rfl, N62q, e62⟩ := hQ62
        have N62 := Fr.app N56 N62q
        refine Gl.st st62 ?_
        show Gl p e below P (T62.setTop (mkF m 260 #[.val (.int p1), .val (.int p2), .val (.int p3), .val (.int p4), .val (.int b), .val (.ref b2), .val (.ref b14), .val (.int (Int32.ofNat f)), .val (.int (Int32.ofNat ct)), .val (.int sn), .val (.ref b26), .val (.int (Int32.ofNat (own_com Rf Of f 4 0 ct).length)), .val (.ref b36), .val (.int (Int32.ofNat (own_com Rf Of f 1 0 ct).length))] [(.int (0 : Int32))]))
        refine Gl.st (fun _ k => XS.ifYes X62.here hx rfl (pc0 := 260) (pc' := 275) rfl (hb hby at_260) rfl ((if0 _ _).trans (teq (by decide : (0 : Int32) = (0 : Int32))).1) (by decide) (by decide) k) ?_
        show Gl p e below P (T62.setTop (mkF m 275 #[.val (.int p1), .val (.int p2), .val (.int p3), .val (.int p4), .val (.int b), .val (.ref b2), .val (.ref b14), .val (.int (Int32.ofNat f)), .val (.int (Int32.ofNat ct)), .val (.int sn), .val (.ref b26), .val (.int (Int32.ofNat (own_com Rf Of f 4 0 ct).length)), .val (.ref b36), .val (.int (Int32.ofNat (own_com Rf Of f 1 0 ct).length))] []))
        have hnx := own_com_out (W := Rf) (S := Of) (f := f) (i := 1) (lo := 0) (hi := ct) (fun q => hin q.2)
        rw [← hnx]
        show Gl p e below P (T62.setTop (mkF m 275 #[.val (.int p1), .val (.int p2), .val (.int p3), .val (.int p4), .val (.int b), .val (.ref b2), .val (.ref b14), .val (.int (Int32.ofNat f)), .val (.int (Int32.ofNat ct)), .val (.int sn), .val (.ref b26), .val (.int (Int32.ofNat (own_com Rf Of f 4 0 ct).length)), .val (.ref b36), .val (.int (Int32.ofNat (own_com Rf Of f 2 0 ct).length))] []))
        have VN := J56_V_b36
        rw [← hnx] at VN
        exact J2 T62 _ _ (X62.mono (by decide) (by decide)) e62 N62 J56_Z J56_V_b2 J56_V_b14 J56_V_b26 VN
    · refine Gl.st (fun _ k => XS.icmpYes X56.here hx rfl (pc0 := 246) (pc' := 275) rfl (hb hby at_246) rfl (tlt ((own_lt 1 f (by omega) (by omega)).mpr (by omega) : (1 : Int32) < (Int32.ofNat f))).2.2.1 (by decide) (by decide) k) ?_
      show Gl p e below P (T56.setTop (mkF m 275 #[.val (.int p1), .val (.int p2), .val (.int p3), .val (.int p4), .val (.int b), .val (.ref b2), .val (.ref b14), .val (.int (Int32.ofNat f)), .val (.int (Int32.ofNat ct)), .val (.int sn), .val (.ref b26), .val (.int (Int32.ofNat (own_com Rf Of f 4 0 ct).length)), .val (.ref b36), .val (.int (Int32.ofNat (own_com Rf Of f 1 0 ct).length))] []))
      have hnx := own_com_out (W := Rf) (S := Of) (f := f) (i := 1) (lo := 0) (hi := ct) (fun q => hfk q.1)
      rw [← hnx]
      show Gl p e below P (T56.setTop (mkF m 275 #[.val (.int p1), .val (.int p2), .val (.int p3), .val (.int p4), .val (.int b), .val (.ref b2), .val (.ref b14), .val (.int (Int32.ofNat f)), .val (.int (Int32.ofNat ct)), .val (.int sn), .val (.ref b26), .val (.int (Int32.ofNat (own_com Rf Of f 4 0 ct).length)), .val (.ref b36), .val (.int (Int32.ofNat (own_com Rf Of f 2 0 ct).length))] []))
      have VN := J56_V_b36
      rw [← hnx] at VN
      exact J2 T56 _ _ (X56.mono (by decide) (by decide)) e56 N56 J56_Z J56_V_b2 J56_V_b14 J56_V_b26 VN
  refine Gl.st (fun _ k => XS.iload X36.here hx rfl (hb hby at_212) rfl k) ?_
  show Gl p e below P (T36.setTop (mkF m 214 #[.val (.int p1), .val (.int p2), .val (.int p3), .val (.int p4), .val (.int b), .val (.ref b2), .val (.ref b14), .val (.int (Int32.ofNat f)), .val (.int (Int32.ofNat ct)), .val (.int sn), .val (.ref b26), .val (.int (Int32.ofNat (own_com Rf Of f 4 0 ct).length)), .val (.ref b36), .val (.int (Int32.ofNat (own_com Rf Of f 0 0 ct).length))] [(.int (Int32.ofNat f))]))
  by_cases hfk : f ≤ 0
  · refine Gl.st (fun _ k => XS.ifNo X36.here hx rfl (hb hby at_214) rfl ((if0 _ _).trans (flt ((fun q => absurd ((own_lt 0 f (by omega) (by omega)).mp q) (by omega)) : ¬ ((0 : Int32) < (Int32.ofNat f)))).2.2.1) k) ?_
    show Gl p e below P (T36.setTop (mkF m 217 #[.val (.int p1), .val (.int p2), .val (.int p3), .val (.int p4), .val (.int b), .val (.ref b2), .val (.ref b14), .val (.int (Int32.ofNat f)), .val (.int (Int32.ofNat ct)), .val (.int sn), .val (.ref b26), .val (.int (Int32.ofNat (own_com Rf Of f 4 0 ct).length)), .val (.ref b36), .val (.int (Int32.ofNat (own_com Rf Of f 0 0 ct).length))] []))
    refine Gl.st (fun _ k => XS.aload X36.here hx rfl (hb hby at_217) rfl rfl k) ?_
    show Gl p e below P (T36.setTop (mkF m 219 #[.val (.int p1), .val (.int p2), .val (.int p3), .val (.int p4), .val (.int b), .val (.ref b2), .val (.ref b14), .val (.int (Int32.ofNat f)), .val (.int (Int32.ofNat ct)), .val (.int sn), .val (.ref b26), .val (.int (Int32.ofNat (own_com Rf Of f 4 0 ct).length)), .val (.ref b36), .val (.int (Int32.ofNat (own_com Rf Of f 0 0 ct).length))] [(.ref b14)]))
    refine Gl.st (fun _ k => XS.iload X36.here hx rfl (hb hby at_219) rfl k) ?_
    show Gl p e below P (T36.setTop (mkF m 221 #[.val (.int p1), .val (.int p2), .val (.int p3), .val (.int p4), .val (.int b), .val (.ref b2), .val (.ref b14), .val (.int (Int32.ofNat f)), .val (.int (Int32.ofNat ct)), .val (.int sn), .val (.ref b26), .val (.int (Int32.ofNat (own_com Rf Of f 4 0 ct).length)), .val (.ref b36), .val (.int (Int32.ofNat (own_com Rf Of f 0 0 ct).length))] [(.int (Int32.ofNat ct)), (.ref b14)]))
    refine Gl.st (fun _ k => XS.aload X36.here hx rfl (hb hby at_221) rfl rfl k) ?_
    show Gl p e below P (T36.setTop (mkF m 223 #[.val (.int p1), .val (.int p2), .val (.int p3), .val (.int p4), .val (.int b), .val (.ref b2), .val (.ref b14), .val (.int (Int32.ofNat f)), .val (.int (Int32.ofNat ct)), .val (.int sn), .val (.ref b26), .val (.int (Int32.ofNat (own_com Rf Of f 4 0 ct).length)), .val (.ref b36), .val (.int (Int32.ofNat (own_com Rf Of f 0 0 ct).length))] [(.ref b2), (.int (Int32.ofNat ct)), (.ref b14)]))
    refine Gl.st (fun _ k => XS.iconst X36.here hx rfl (hb hby at_223) k) ?_
    show Gl p e below P (T36.setTop (mkF m 224 #[.val (.int p1), .val (.int p2), .val (.int p3), .val (.int p4), .val (.int b), .val (.ref b2), .val (.ref b14), .val (.int (Int32.ofNat f)), .val (.int (Int32.ofNat ct)), .val (.int sn), .val (.ref b26), .val (.int (Int32.ofNat (own_com Rf Of f 4 0 ct).length)), .val (.ref b36), .val (.int (Int32.ofNat (own_com Rf Of f 0 0 ct).length))] [(.int (0 : Int32)), (.ref b2), (.int (Int32.ofNat ct)), (.ref b14)]))
    obtain ⟨c63, Ar63, q63, S63, M63, H63, U63⟩ := id VV_b2_v36
    have hin63 : ¬ ((0 : Int32) < 0 ∨ c63.slots.size ≤ ((0 : Int32)).toNatClampNeg) := inb_of S63 ⟨(by decide), (by decide)⟩
    have hat63 : c63.slots[((0 : Int32)).toNatClampNeg]? = some (.int r0) := H63.at hin63 (by rw [← eR0]; exact own_get4 Rf 0 (by decide))
    refine Gl.st (X36.iaload hx (j := (0 : Int32)) (v := (.int r0)) (by rw [e36]; exact Ar63.1) (State.isArrayOf_alike hZ.alike Ar63.2.1) Ar63.2.2 hin63 hat63 (g := (mkF m 224 #[.val (.int p1), .val (.int p2), .val (.int p3), .val (.int p4), .val (.int b), .val (.ref b2), .val (.ref b14), .val (.int (Int32.ofNat f)), .val (.int (Int32.ofNat ct)), .val (.int sn), .val (.ref b26), .val (.int (Int32.ofNat (own_com Rf Of f 4 0 ct).length)), .val (.ref b36), .val (.int (Int32.ofNat (own_com Rf Of f 0 0 ct).length))] [(.int (0 : Int32)), (.ref b2), (.int (Int32.ofNat ct)), (.ref b14)])) rfl rfl (hb hby at_224)) ?_
    show Gl p e below P (T36.setTop (mkF m 225 #[.val (.int p1), .val (.int p2), .val (.int p3), .val (.int p4), .val (.int b), .val (.ref b2), .val (.ref b14), .val (.int (Int32.ofNat f)), .val (.int (Int32.ofNat ct)), .val (.int sn), .val (.ref b26), .val (.int (Int32.ofNat (own_com Rf Of f 4 0 ct).length)), .val (.ref b36), .val (.int (Int32.ofNat (own_com Rf Of f 0 0 ct).length))] [(.int r0), (.int (Int32.ofNat ct)), (.ref b14)]))
    rw [← eR0]
    show Gl p e below P (T36.setTop (mkF m 225 #[.val (.int p1), .val (.int p2), .val (.int p3), .val (.int p4), .val (.int b), .val (.ref b2), .val (.ref b14), .val (.int (Int32.ofNat f)), .val (.int (Int32.ofNat ct)), .val (.int sn), .val (.ref b26), .val (.int (Int32.ofNat (own_com Rf Of f 4 0 ct).length)), .val (.ref b36), .val (.int (Int32.ofNat (own_com Rf Of f 0 0 ct).length))] [(.int (Rf 0)), (.int (Int32.ofNat ct)), (.ref b14)]))
    by_cases hin : own_in Of 0 ct (Rf 0) = true
    · obtain ⟨_, _, ⟨T64, L64, k64, n64⟩, -, X64, ⟨Lc64, hQ64, l64, y64, z64⟩, st64⟩ := Jvm.LawKit.callS X36 hx (y := (⟨"com/example/vendace/vendace/service/SortedArraysIntersectPinLaw", "holds", "([III)Z"⟩ : MethodName)) hown (mvT hZ (hw _ (List.mem_of_getElem? (i := 13) rfl))) (mvT hZ (hw _ (List.mem_of_getElem? (i := 14) rfl))) (mvT hZ (hw _ (List.mem_of_getElem? (i := 15) rfl))) (mvT hZ (hw _ (List.mem_of_getElem? (i := 16) rfl))) (by decide) (backOf (W := 0) (rm26 l Z a0 hw [] b14 k14 Of ct (Rf 0) (1 : Int32) h36 n0 Z0_v36 VV_b14_v36 hct (Or.inl ⟨hin, rfl⟩)) hZ (hw _ (List.mem_of_getElem? (i := 16) rfl)) (hw _ (List.mem_of_getElem? (i := 15) rfl)) (by decide) (by decide)) (g := (mkF m 225 #[.val (.int p1), .val (.int p2), .val (.int p3), .val (.int p4), .val (.int b), .val (.ref b2), .val (.ref b14), .val (.int (Int32.ofNat f)), .val (.int (Int32.ofNat ct)), .val (.int sn), .val (.ref b26), .val (.int (Int32.ofNat (own_com Rf Of f 4 0 ct).length)), .val (.ref b36), .val (.int (Int32.ofNat (own_com Rf Of f 0 0 ct).length))] [(.int (Rf 0)), (.int (Int32.ofNat ct)), (.ref b14)])) rfl (by rw [hml]; rfl) (argsL := [(.ref b14), (.int (Int32.ofNat ct)), (.int (Rf 0))]) (rest := []) (lenOf pd_6 rfl) rfl (by show 2 * 0 + _ ≤ _; exact Nat.le_of_eq rfl) (hb hby at_225) (fun _ _ => ⟨rfl, e36, (by decide : 4 + 0 ≤ _), (by decide : 16 + 0 ≤ _)⟩)
      dsimp only [Pt.U, Pt.locs, Pt.cells, Pt.slots] at X64 l64 y64 z64 st64 hQ64
      subst l64 y64 z64
      obtain ⟨rfl, N64q, e64⟩ := hQ64
      have N64 := Fr.app N35 N64q
      refine Gl.st st64 ?_
      show Gl p e below P (T64.setTop (mkF m 228 #[.val (.int p1), .val (.int p2), .val (.int p3), .val (.int p4), .val (.int b), .val (.ref b2), .val (.ref b14), .val (.int (Int32.ofNat f)), .val (.int (Int32.ofNat ct)), .val (.int sn), .val (.ref b26), .val (.int (Int32.ofNat (own_com Rf Of f 4 0 ct).length)), .val (.ref b36), .val (.int (Int32.ofNat (own_com Rf Of f 0 0 ct).length))] [(.int (1 : Int32))]))
      refine Gl.st (fun _ k => XS.ifNo X64.here hx rfl (hb hby at_228) rfl ((if0 _ _).trans (feq (by decide : ¬ ((1 : Int32) = (0 : Int32)))).1) k) ?_
      show Gl p e below P (T64.setTop (mkF m 231 #[.val (.int p1), .val (.int p2), .val (.int p3), .val (.int p4), .val (.int b), .val (.ref b2), .val (.ref b14), .val (.int (Int32.ofNat f)), .val (.int (Int32.ofNat ct)), .val (.int sn), .val (.ref b26), .val (.int (Int32.ofNat (own_com Rf Of f 4 0 ct).length)), .val (.ref b36), .val (.int (Int32.ofNat (own_com Rf Of f 0 0 ct).length))] []))
      refine Gl.st (fun _ k => XS.aload X64.here hx rfl (hb hby at_231) rfl rfl k) ?_
      show Gl p e below P (T64.setTop (mkF m 233 #[.val (.int p1), .val (.int p2), .val (.int p3), .val (.int p4), .val (.int b), .val (.ref b2), .val (.ref b14), .val (.int (Int32.ofNat f)), .val (.int (Int32.ofNat ct)), .val (.int sn), .val (.ref b26), .val (.int (Int32.ofNat (own_com Rf Of f 4 0 ct).length)), .val (.ref b36), .val (.int (Int32.ofNat (own_com Rf Of f 0 0 ct).length))] [(.ref b36)]))
      refine Gl.st (fun _ k => XS.iload X64.here hx rfl (hb hby at_233) rfl k) ?_
      show Gl p e below P (T64.setTop (mkF m 235 #[.val (.int p1), .val (.int p2), .val (.int p3), .val (.int p4), .val (.int b), .val (.ref b2), .val (.ref b14), .val (.int (Int32.ofNat f)), .val (.int (Int32.ofNat ct)), .val (.int sn), .val (.ref b26), .val (.int (Int32.ofNat (own_com Rf Of f 4 0 ct).length)), .val (.ref b36), .val (.int (Int32.ofNat (own_com Rf Of f 0 0 ct).length))] [(.int (Int32.ofNat (own_com Rf Of f 0 0 ct).length)), (.ref b36)]))
      refine Gl.st (fun _ k => XS.aload X64.here hx rfl (hb hby at_235) rfl rfl k) ?_
      show Gl p e below P (T64.setTop (mkF m 237 #[.val (.int p1), .val (.int p2), .val (.int p3), .val (.int p4), .val (.int b), .val (.ref b2), .val (.ref b14), .val (.int (Int32.ofNat f)), .val (.int (Int32.ofNat ct)), .val (.int sn), .val (.ref b26), .val (.int (Int32.ofNat (own_com Rf Of f 4 0 ct).length)), .val (.ref b36), .val (.int (Int32.ofNat (own_com Rf Of f 0 0 ct).length))] [(.ref b2), (.int (Int32.ofNat (own_com Rf Of f 0 0 ct).length)), (.ref b36)]))
      refine Gl.st (fun _ k => XS.iconst X64.here hx rfl (hb hby at_237) k) ?_
      show Gl p e below P (T64.setTop (mkF m 238 #[.val (.int p1), .val (.int p2), .val (.int p3), .val (.int p4), .val (.int b), .val (.ref b2), .val (.ref b14), .val (.int (Int32.ofNat f)), .val (.int (Int32.ofNat ct)), .val (.int sn), .val (.ref b26), .val (.int (Int32.ofNat (own_com Rf Of f 4 0 ct).length)), .val (.ref b36), .val (.int (Int32.ofNat (own_com Rf Of f 0 0 ct).length))] [(.int (0 : Int32)), (.ref b2), (.int (Int32.ofNat (own_com Rf Of f 0 0 ct).length)), (.ref b36)]))
      obtain ⟨c65, Ar65, q65, S65, M65, H65, U65⟩ := id VV_b2_v36
      have hin65 : ¬ ((0 : Int32) < 0 ∨ c65.slots.size ≤ ((0 : Int32)).toNatClampNeg) := inb_of S65 ⟨(by decide), (by decide)⟩
      have hat65 : c65.slots[((0 : Int32)).toNatClampNeg]? = some (.int (Rf 0)) := H65.at hin65 (by exact own_get4 Rf 0 (by decide))
      refine Gl.st (X64.iaload hx (j := (0 : Int32)) (v := (.int (Rf 0))) (by rw [e64]; exact Ar65.1) (State.isArrayOf_alike hZ.alike Ar65.2.1) Ar65.2.2 hin65 hat65 (g := (mkF m 238 #[.val (.int p1), .val (.int p2), .val (.int p3), .val (.int p4), .val (.int b), .val (.ref b2), .val (.ref b14), .val (.int (Int32.ofNat f)), .val (.int (Int32.ofNat ct)), .val (.int sn), .val (.ref b26), .val (.int (Int32.ofNat (own_com Rf Of f 4 0 ct).length)), .val (.ref b36), .val (.int (Int32.ofNat (own_com Rf Of f 0 0 ct).length))] [(.int (0 : Int32)), (.ref b2), (.int (Int32.ofNat (own_com Rf Of f 0 0 ct).length)), (.ref b36)])) rfl rfl (hb hby at_238)) ?_
      show Gl p e below P (T64.setTop (mkF m 239 #[.val (.int p1), .val (.int p2), .val (.int p3), .val (.int p4), .val (.int b), .val (.ref b2), .val (.ref b14), .val (.int (Int32.ofNat f)), .val (.int (Int32.ofNat ct)), .val (.int sn), .val (.ref b26), .val (.int (Int32.ofNat (own_com Rf Of f 4 0 ct).length)), .val (.ref b36), .val (.int (Int32.ofNat (own_com Rf Of f 0 0 ct).length))] [(.int (Rf 0)), (.int (Int32.ofNat (own_com Rf Of f 0 0 ct).length)), (.ref b36)]))
      have cl := own_com_len Rf Of f 0 0 ct
      have hnx := own_com_in (W := Rf) (S := Of) (f := f) (i := 0) (lo := 0) (hi := ct) hfk hin
      obtain ⟨c66, Ar66, q66, S66, M66, H66, U66⟩ := id VE
      obtain ⟨T67, h67, X67, e67, W67, st67⟩ := stI X64 hx hZ e64 Ar66 (j := (Int32.ofNat (own_com Rf Of f 0 0 ct).length)) (inb_of S66 ⟨own_neg _ (by omega), own_lt4 _ (by omega)⟩) (g := (mkF m 239 #[.val (.int p1), .val (.int p2), .val (.int p3), .val (.int p4), .val (.int b), .val (.ref b2), .val (.ref b14), .val (.int (Int32.ofNat f)), .val (.int (Int32.ofNat ct)), .val (.int sn), .val (.ref b26), .val (.int (Int32.ofNat (own_com Rf Of f 4 0 ct).length)), .val (.ref b36), .val (.int (Int32.ofNat (own_com Rf Of f 0 0 ct).length))] [(.int (Rf 0)), (.int (Int32.ofNat (own_com Rf Of f 0 0 ct).length)), (.ref b36)])) rfl rfl (hb hby at_239)
      refine Gl.st st67 ?_
      have Z0_v67 : n0 ≤ h67.size := Nat.le_trans Z0_v36 (Keep.of_wr W67).1
      have VV_b2_v67 : Arv Z h67 b2 k2 .int (4 : Int32) (own_v4 Rf) (.int (0 : Int32)) := VV_b2_v36.other W67 ne_b2_b36
      have VV_b14_v67 : Arv Z h67 b14 k14 .int (4 : Int32) (own_v4 Of) (.int (0 : Int32)) := VV_b14_v36.other W67 ne_b14_b36
      have VN35_v67 : Arv Z h67 b26 k26 .int (4 : Int32) (own_v4 (own_into (own_com Rf Of f 4 0 ct) (fun _ => sn))) (.int (0 : Int32)) := VN35_v36.other W67 ne_b26_b36
      have VN : Arv Z h67 b36 k36 .int (4 : Int32) ((own_v4 (own_into (own_com Rf Of f 0 0 ct) (fun _ => (0 : Int32)))).set (own_com Rf Of f 0 0 ct).length (.int (Rf 0))) (.int (0 : Int32)) := Arv.set Ar66 q66 S66 M66 H66 U66 rfl W67 _ (own_nn _ (by omega)) (show _ < 4 by omega)
      rw [own_set4 _ _ (by omega), own_into_snoc, ← hnx] at VN
      have N67 := Fr.snoc X67 N64 g_b36
      show Gl p e below P (T67.setTop (mkF m 240 #[.val (.int p1), .val (.int p2), .val (.int p3), .val (.int p4), .val (.int b), .val (.ref b2), .val (.ref b14), .val (.int (Int32.ofNat f)), .val (.int (Int32.ofNat ct)), .val (.int sn), .val (.ref b26), .val (.int (Int32.ofNat (own_com Rf Of f 4 0 ct).length)), .val (.ref b36), .val (.int (Int32.ofNat (own_com Rf Of f 0 0 ct).length))] []))
      refine Gl.st (fun _ k => XS.iinc X67.here hx rfl (hb hby at_240) rfl (l' := #[.val (.int p1), .val (.int p2), .val (.int p3), .val (.int p4), .val (.int b), .val (.ref b2), .val (.ref b14), .val (.int (Int32.ofNat f)), .val (.int (Int32.ofNat ct)), .val (.int sn), .val (.ref b26), .val (.int (Int32.ofNat (own_com Rf Of f 4 0 ct).length)), .val (.ref b36), .val (.int ((Int32.ofNat (own_com Rf Of f 0 0 ct).length) + (1 : Int32)))]) rfl k) ?_
      show Gl p e below P (T67.setTop (mkF m 243 #[.val (.int p1), .val (.int p2), .val (.int p3), .val (.int p4), .val (.int b), .val (.ref b2), .val (.ref b14), .val (.int (Int32.ofNat f)), .val (.int (Int32.ofNat ct)), .val (.int sn), .val (.ref b26), .val (.int (Int32.ofNat (own_com Rf Of f 4 0 ct).length)), .val (.ref b36), .val (.int ((Int32.ofNat (own_com Rf Of f 0 0 ct).length) + (1 : Int32)))] []))
      have hlen : Int32.ofNat (own_com Rf Of f 0 0 ct).length + (1 : Int32) = Int32.ofNat (own_com Rf Of f 1 0 ct).length := by rw [own_s, hnx, List.length_append]; rfl
      rw [hlen]
      show Gl p e below P (T67.setTop (mkF m 243 #[.val (.int p1), .val (.int p2), .val (.int p3), .val (.int p4), .val (.int b), .val (.ref b2), .val (.ref b14), .val (.int (Int32.ofNat f)), .val (.int (Int32.ofNat ct)), .val (.int sn), .val (.ref b26), .val (.int (Int32.ofNat (own_com Rf Of f 4 0 ct).length)), .val (.ref b36), .val (.int (Int32.ofNat (own_com Rf Of f 1 0 ct).length))] []))
      exact J1 T67 _ _ (X67.mono (by decide) (by decide)) e67 N67 Z0_v67 VV_b2_v67 VV_b14_v67 VN35_v67 VN
    · obtain ⟨_, _, ⟨T68, L68, k68, n68⟩, -, X68, ⟨Lc68, hQ68, l68, y68, z68⟩, st68⟩ := Jvm.LawKit.callS X36 hx (y := (⟨"com/example/vendace/vendace/service/SortedArraysIntersectPinLaw", "holds", "([III)Z"⟩ : MethodName)) hown (mvT hZ (hw _ (List.mem_of_getElem? (i := 13) rfl))) (mvT hZ (hw _ (List.mem_of_getElem? (i := 14) rfl))) (mvT hZ (hw _ (List.mem_of_getElem? (i := 15) rfl))) (mvT hZ (hw _ (List.mem_of_getElem? (i := 16) rfl))) (by decide) (backOf (W := 0) (rm26 l Z a0 hw [] b14 k14 Of ct (Rf 0) (0 : Int32) h36 n0 Z0_v36 VV_b14_v36 hct (Or.inr ⟨hin, rfl⟩)) hZ (hw _ (List.mem_of_getElem? (i := 16) rfl)) (hw _ (List.mem_of_getElem? (i := 15) rfl)) (by decide) (by decide)) (g := (mkF m 225 #[.val (.int p1), .val (.int p2), .val (.int p3), .val (.int p4), .val (.int b), .val (.ref b2), .val (.ref b14), .val (.int (Int32.ofNat f)), .val (.int (Int32.ofNat ct)), .val (.int sn), .val (.ref b26), .val (.int (Int32.ofNat (own_com Rf Of f 4 0 ct).length)), .val (.ref b36), .val (.int (Int32.ofNat (own_com Rf Of f 0 0 ct).length))] [(.int (Rf 0)), (.int (Int32.ofNat ct)), (.ref b14)])) rfl (by rw [hml]; rfl) (argsL := [(.ref b14), (.int (Int32.ofNat ct)), (.int (Rf 0))]) (rest := []) (lenOf pd_6 rfl) rfl (by show 2 * 0 + _ ≤ _; exact Nat.le_of_eq rfl) (hb hby at_225) (fun _ _ => ⟨rfl, e36, (by decide : 4 + 0 ≤ _), (by decide : 16 + 0 ≤ _)⟩)
      dsimp only [Pt.U, Pt.locs, Pt.cells, Pt.slots] at X68 l68 y68 z68 st68 hQ68
      subst l68 y68 z68
      obtain ⟨rfl, N68q, e68⟩ := hQ68
      have N68 := Fr.app N35 N68q
      refine Gl.st st68 ?_
      show Gl p e below P (T68.setTop (mkF m 228 #[.val (.int p1), .val (.int p2), .val (.int p3), .val (.int p4), .val (.int b), .val (.ref b2), .val (.ref b14), .val (.int (Int32.ofNat f)), .val (.int (Int32.ofNat ct)), .val (.int sn), .val (.ref b26), .val (.int (Int32.ofNat (own_com Rf Of f 4 0 ct).length)), .val (.ref b36), .val (.int (Int32.ofNat (own_com Rf Of f 0 0 ct).length))] [(.int (0 : Int32))]))
      refine Gl.st (fun _ k => XS.ifYes X68.here hx rfl (pc0 := 228) (pc' := 243) rfl (hb hby at_228) rfl ((if0 _ _).trans (teq (by decide : (0 : Int32) = (0 : Int32))).1) (by decide) (by decide) k) ?_
      show Gl p e below P (T68.setTop (mkF m 243 #[.val (.int p1), .val (.int p2), .val (.int p3), .val (.int p4), .val (.int b), .val (.ref b2), .val (.ref b14), .val (.int (Int32.ofNat f)), .val (.int (Int32.ofNat ct)), .val (.int sn), .val (.ref b26), .val (.int (Int32.ofNat (own_com Rf Of f 4 0 ct).length)), .val (.ref b36), .val (.int (Int32.ofNat (own_com Rf Of f 0 0 ct).length))] []))
      have hnx := own_com_out (W := Rf) (S := Of) (f := f) (i := 0) (lo := 0) (hi := ct) (fun q => hin q.2)
      rw [← hnx]
      show Gl p e below P (T68.setTop (mkF m 243 #[.val (.int p1), .val (.int p2), .val (.int p3), .val (.int p4), .val (.int b), .val (.ref b2), .val (.ref b14), .val (.int (Int32.ofNat f)), .val (.int (Int32.ofNat ct)), .val (.int sn), .val (.ref b26), .val (.int (Int32.ofNat (own_com Rf Of f 4 0 ct).length)), .val (.ref b36), .val (.int (Int32.ofNat (own_com Rf Of f 1 0 ct).length))] []))
      have VN := VE
      rw [← hnx] at VN
      exact J1 T68 _ _ (X68.mono (by decide) (by decide)) e68 N68 Z0_v36 VV_b2_v36 VV_b14_v36 VN35_v36 VN
  · refine Gl.st (fun _ k => XS.ifYes X36.here hx rfl (pc0 := 214) (pc' := 243) rfl (hb hby at_214) rfl ((if0 _ _).trans (tlt ((own_lt 0 f (by omega) (by omega)).mpr (by omega) : (0 : Int32) < (Int32.ofNat f))).2.2.1) (by decide) (by decide) k) ?_
    show Gl p e below P (T36.setTop (mkF m 243 #[.val (.int p1), .val (.int p2), .val (.int p3), .val (.int p4), .val (.int b), .val (.ref b2), .val (.ref b14), .val (.int (Int32.ofNat f)), .val (.int (Int32.ofNat ct)), .val (.int sn), .val (.ref b26), .val (.int (Int32.ofNat (own_com Rf Of f 4 0 ct).length)), .val (.ref b36), .val (.int (Int32.ofNat (own_com Rf Of f 0 0 ct).length))] []))
    have hnx := own_com_out (W := Rf) (S := Of) (f := f) (i := 0) (lo := 0) (hi := ct) (fun q => hfk q.1)
    rw [← hnx]
    show Gl p e below P (T36.setTop (mkF m 243 #[.val (.int p1), .val (.int p2), .val (.int p3), .val (.int p4), .val (.int b), .val (.ref b2), .val (.ref b14), .val (.int (Int32.ofNat f)), .val (.int (Int32.ofNat ct)), .val (.int sn), .val (.ref b26), .val (.int (Int32.ofNat (own_com Rf Of f 4 0 ct).length)), .val (.ref b36), .val (.int (Int32.ofNat (own_com Rf Of f 1 0 ct).length))] []))
    have VN := VE
    rw [← hnx] at VN
    exact J1 T36 _ _ (X36.mono (by decide) (by decide)) e36 N35 Z0_v36 VV_b2_v36 VV_b14_v36 VN35_v36 VN
set_option maxRecDepth 65536 in
set_option maxHeartbeats 40000000 in
theorem comes_1 {Post : Tables → Env → Array Value → State → Outcome → State → Prop} (hpost : ∀ tb e args s v u, (limb_1_1.after args s (.returned v) u = true ∧ limb_1_2.after args s (.returned v) u = true ∧ True) → FrameEnd s (.returned v) u (Jvm.fieldLocs frame_1_writes args s ++ Jvm.arrayLocs frame_1_arrays args s ++ Jvm.staticLocs frame_1_statics s) 16 128 → Post tb e args s (.returned v) u) :
    ArmFor flags0 classFile x code maxLocals ret World_1 tables_1 room_1 Calls_1 rest_1 Pre_1 Post := by
  intro l hfl _ _ p e ha hc hk s m args below hf hA hF happ hP
  obtain ⟨hcalls, hrest, hpre⟩ := hP
  obtain ⟨-, -, -, hnamed, -, -, -, hat⟩ := (Spec.applies_iff hf).mp happ
  obtain ⟨hg, hn⟩ := and_e (Cond.before_iff.mp (show (Jvm.Cond.and given_1 narrow_1).before args s = true from hpre))
  obtain ⟨hcnt, g0⟩ := and_e hg
  obtain ⟨ia0, g1⟩ := and_e g0
  obtain ⟨ia1, g2⟩ := and_e g1
  obtain ⟨ia2, g3⟩ := and_e g2
  obtain ⟨w0, w1, w2, w3, rfl⟩ : ∃ w0 w1 w2 w3 : Value, args = #[w0, w1, w2, w3] := by
    have hs : args.size = 4 := by simpa [Cond.value, given_1] using hcnt
    obtain ⟨L⟩ := args
    match L, hs with
    | [w0, w1, w2, w3], _ => exact ⟨w0, w1, w2, w3, rfl⟩
  have hw := fun d (hd : d ∈ tables_1) => atoms_spec (ws := Jvm.Cond.code x code maxLocals ret :: tables_1) hat d (List.mem_cons_of_mem _ hd)
  have hfit : Fit s := fun {y c} hc i hi => by
    obtain ⟨ha, rfl⟩ := Array.getElem?_eq_some_iff.mp hc
    have q := List.all_eq_true.mp ((Array.all_eq_true_iff_forall_mem.mp hF) _ (Array.getElem_mem ha)) i (List.mem_range.mpr hi)
    simpa [Array.getElem?_eq_getElem hi] using q
  obtain ⟨i0, ei0⟩ := is_v ia0
  obtain rfl : w0 = (.int i0) := Option.some.inj ei0
  obtain ⟨i1, ei1⟩ := is_v ia1
  obtain rfl : w1 = (.int i1) := Option.some.inj ei1
  obtain ⟨i2, ei2⟩ := is_v ia2
  obtain rfl : w2 = (.int i2) := Option.some.inj ei2
  obtain ⟨i3, ei3⟩ := is_v g3
  obtain rfl : w3 = (.int i3) := Option.some.inj ei3
  obtain ⟨n, o, h1, h2, h3, _, L, rfl, ⟨rfl, N⟩, hq⟩ := rm0 l s _ hw tables_1 i0 i1 i2 i3 s.heap s.heap.size (Nat.le_refl _) p e ha hc hk s m _ below hf ((Spec.applies_iff_loose hf).mp happ).1 ⟨rfl, State.Warmed39.refl s, rfl⟩ trivial
  refine ⟨n, _, h1, h2, h3, hpost _ _ _ _ _ _ ⟨Cond.after_iff.mpr rfl, Cond.after_iff.mpr (eq_i res_at (Term.int_eval (1)) rfl), trivial⟩ ⟨hq.1, hq.2.1, (hq.2.2.sift fun y hy => Or.inr (N y hy)).mono (by decide) (by decide)⟩⟩
theorem main_1_1 : Claimed_1_1 := comes_1 fun _ _ _ _ _ _ h hF => ⟨h.1, hF⟩
theorem main_1_2 : Claimed_1_2 := comes_1 fun _ _ _ _ _ _ h hF => ⟨h.2.1, hF⟩
end Jvm.Pilot.@@N@@
namespace Jvm.Pilot.@@N@@
open Jvm Jvm.ClassFile Sem Op Lib Jvm.Free Jvm.Stand Jvm.Pilot.@@N@@.Jvm.D
/-! MADE BY PROGRAM (witnessworld.py) out of the Statement's table words and the real class files: 11 classes; the members and pool entries that the words name. The judged class is class 1, her method 3. -/
namespace start1
open Jvm.ClassFile
def u (s : String) : CpInfo := .utf8 (stringToUtf16 s)
/-- a pool by its gaps: so many unusable entries, then the entry; so many at the end -/
def gap : Nat → List CpInfo → List CpInfo
  | 0, r => r
  | n + 1, r => .unusable :: gap n r
def poolList (es : List (Nat × CpInfo)) (last : Nat) : List CpInfo := es.foldr (fun e r => gap e.1 (e.2 :: r)) (gap last [])
def pool (es : List (Nat × CpInfo)) (last : Nat) : Array CpInfo := ⟨poolList es last⟩
def fileOf (pool : Array CpInfo) (this : Nat) (attrs : Array Attribute := #[]) (ms : Array MethodInfo := #[]) (fl : Nat := 33) (sup : Nat := 0) (ifs : Array Nat := #[]) (fds : Array FieldInfo := #[]) : ClassFile where
  minorVersion := 0
  majorVersion := 65
  constantPool := pool
  accessFlags := fl
  thisClass := this
  superClass := sup
  interfaces := ifs
  fields := fds
  methods := ms
  attributes := attrs
def plain (name : String) (sup : Option ClassId) : Class where
  name := name
  kind := .ordinary
  loader := none
  accessFlags := 33
  super := sup
  interfaces := #[]
  cf := none
  fields := #[]
  methods := #[]
  instanceTypes := #[]
  staticTypes := #[]
  resolved := #[]
  callSites := []
  init := .initialized
  statics := none
  mirror := none

def pool0 : Array CpInfo := pool [(5, u "<init>"), (0, u "()V"), (1, .class_ 10), (1, u "java/lang/Object")] 113

def k0m0 : Method := { name := "<init>", desc := "()V", sig := { parameters := [], returnType := none }, accessFlags := 1, code := none }
/-- java/lang/Object -/
def k0 : Class := { plain "java/lang/Object" none with
  accessFlags := 33
  interfaces := #[]
  cf := some (fileOf pool0 8 #[] #[{ accessFlags := 1, nameIndex := 5, descriptorIndex := 6, attributes := #[] }] 33 0 #[] #[])
  fields := #[]
  methods := #[k0m0]
  instanceTypes := #[]
  staticTypes := #[]
  resolved := Array.replicate 124 none
  statics := none }

def pool1 : Array CpInfo := pool [(2, .class_ 4), (1, u "java/lang/Object"), (0, u "<init>"), (0, u "()V"), (2, .integer 2147483607), (0, .methodref 11 12), (0, .class_ 13), (0, .nameAndType 14 15), (0, u "java/lang/Math"), (0, u "min"), (0, u "(II)I"), (0, .methodref 17 18), (0, .class_ 19), (0, .nameAndType 20 21), (0, u "com/example/vendace/vendace/service/SortedArrays"), (0, u "intersect"), (0, u "([II[II[I)I"), (0, .methodref 23 24), (0, .class_ 25), (0, .nameAndType 26 27), (0, u "com/example/vendace/vendace/service/SortedArraysIntersectPinLaw"), (0, u "holds"), (0, u "([III)Z"), (0, .methodref 23 29), (0, .nameAndType 30 31), (0, u "slot"), (0, u "([I[IIII)Z"), (3, u "law"), (0, u "(IIII)Z")] 4

def k1m0 : Method := { name := "<init>", desc := "()V", sig := { parameters := [], returnType := none }, accessFlags := 2, code := none }
def k1c1 : Code := { maxStack := 2, maxLocals := 3, code := method_2_code, exceptionTable := #[], attributes := #[] }
def k1m1 : Method := { name := "holds", desc := "([III)Z", sig := { parameters := [(.array .int), .int, .int], returnType := some .boolean }, accessFlags := 10, code := some k1c1 }
def k1c2 : Code := { maxStack := 3, maxLocals := 5, code := method_3_code, exceptionTable := #[], attributes := #[] }
def k1m2 : Method := { name := "slot", desc := "([I[IIII)Z", sig := { parameters := [(.array .int), (.array .int), .int, .int, .int], returnType := some .boolean }, accessFlags := 10, code := some k1c2 }
def k1c3 : Code := { maxStack := 5, maxLocals := 14, code := code, exceptionTable := #[], attributes := #[] }
def k1m3 : Method := { name := "law", desc := "(IIII)Z", sig := { parameters := [.int, .int, .int, .int], returnType := some .boolean }, accessFlags := 9, code := some k1c3 }
/-- com/example/vendace/vendace/service/SortedArraysIntersectPinLaw -/
def k1 : Class := { plain "com/example/vendace/vendace/service/SortedArraysIntersectPinLaw" (some 0) with
  accessFlags := 49
  interfaces := #[]
  cf := some (fileOf pool1 23 #[] #[{ accessFlags := 2, nameIndex := 5, descriptorIndex := 6, attributes := #[] }, { accessFlags := 10, nameIndex := 26, descriptorIndex := 27, attributes := #[] }, { accessFlags := 10, nameIndex := 30, descriptorIndex := 31, attributes := #[] }, { accessFlags := 9, nameIndex := 35, descriptorIndex := 36, attributes := #[] }] 49 2 #[] #[])
  fields := #[]
  methods := #[k1m0, k1m1, k1m2, k1m3]
  instanceTypes := #[]
  staticTypes := #[]
  resolved := Array.replicate 41 none
  statics := none }

def pool2 : Array CpInfo := pool [(1, .class_ 2), (0, u "java/lang/Math"), (1, .class_ 6), (1, u "java/lang/Object"), (0, u "<init>"), (0, u "()V"), (89, .class_ 100), (1, u "java/lang/Math$RandomNumberGeneratorHolder"), (71, u "negativeZeroFloatBits"), (0, u "J"), (2, u "negativeZeroDoubleBits"), (24, u "min"), (43, u "$assertionsDisabled"), (0, u "Z"), (88, u "(II)I"), (2, u "twoToTheDoubleScaleDown"), (0, u "D"), (4, u "twoToTheDoubleScaleUp"), (9, u "E"), (3, u "PI"), (2, u "TAU"), (2, u "DEGREES_TO_RADIANS"), (0, u "RADIANS_TO_DEGREES")] 94

def k2m0 : Method := { name := "<init>", desc := "()V", sig := { parameters := [], returnType := none }, accessFlags := 2, code := none }
def k2c1 : Code := { maxStack := 2, maxLocals := 2, code := jdk_29_method_69_code, exceptionTable := #[], attributes := #[] }
def k2m1 : Method := { name := "min", desc := "(II)I", sig := { parameters := [.int, .int], returnType := some .int }, accessFlags := 9, code := some k2c1 }
/-- java/lang/Math -/
def k2 : Class := { plain "java/lang/Math" (some 0) with
  accessFlags := 49
  interfaces := #[]
  cf := some (fileOf pool2 1 #[.nestMembers #[98]] #[{ accessFlags := 2, nameIndex := 7, descriptorIndex := 8, attributes := #[] }, { accessFlags := 9, nameIndex := 201, descriptorIndex := 335, attributes := #[] }] 49 4 #[] #[{ accessFlags := 25, nameIndex := 354, descriptorIndex := 339, attributes := #[] }, { accessFlags := 25, nameIndex := 358, descriptorIndex := 339, attributes := #[] }, { accessFlags := 25, nameIndex := 361, descriptorIndex := 339, attributes := #[] }, { accessFlags := 26, nameIndex := 364, descriptorIndex := 339, attributes := #[] }, { accessFlags := 26, nameIndex := 365, descriptorIndex := 339, attributes := #[] }, { accessFlags := 26, nameIndex := 172, descriptorIndex := 173, attributes := #[] }, { accessFlags := 26, nameIndex := 176, descriptorIndex := 173, attributes := #[] }, { accessFlags := 8, nameIndex := 344, descriptorIndex := 339, attributes := #[] }, { accessFlags := 8, nameIndex := 338, descriptorIndex := 339, attributes := #[] }, { accessFlags := 4120, nameIndex := 245, descriptorIndex := 246, attributes := #[] }])
  fields := #[{ name := "E", type := .double, accessFlags := 25, slot := 0, constantValue := 0 }, { name := "PI", type := .double, accessFlags := 25, slot := 1, constantValue := 0 }, { name := "TAU", type := .double, accessFlags := 25, slot := 2, constantValue := 0 }, { name := "DEGREES_TO_RADIANS", type := .double, accessFlags := 26, slot := 3, constantValue := 0 }, { name := "RADIANS_TO_DEGREES", type := .double, accessFlags := 26, slot := 4, constantValue := 0 }, { name := "negativeZeroFloatBits", type := .long, accessFlags := 26, slot := 5, constantValue := 0 }, { name := "negativeZeroDoubleBits", type := .long, accessFlags := 26, slot := 6, constantValue := 0 }, { name := "twoToTheDoubleScaleUp", type := .double, accessFlags := 8, slot := 7, constantValue := 0 }, { name := "twoToTheDoubleScaleDown", type := .double, accessFlags := 8, slot := 8, constantValue := 0 }, { name := "$assertionsDisabled", type := .boolean, accessFlags := 4120, slot := 9, constantValue := 0 }]
  methods := #[k2m0, k2m1]
  instanceTypes := #[]
  staticTypes := #[.double, .double, .double, .double, .double, .long, .long, .double, .double, .boolean]
  resolved := Array.replicate 460 none
  statics := none }

def pool3 : Array CpInfo := pool [(2, .class_ 4), (1, u "java/lang/Object"), (0, u "<init>"), (0, u "()V"), (0, .methodref 8 9), (0, .class_ 10), (0, .nameAndType 11 12), (0, u "com/example/vendace/vendace/service/SortedArrays"), (0, u "lookUp"), (0, u "([III[III[I)I"), (0, .methodref 14 15), (0, .class_ 16), (0, .nameAndType 17 18), (0, u "java/util/Arrays"), (0, u "binarySearch"), (0, u "([IIII)I"), (2, u "intersect"), (0, u "([II[II[I)I")] 3

def k3m0 : Method := { name := "<init>", desc := "()V", sig := { parameters := [], returnType := none }, accessFlags := 2, code := none }
def k3c1 : Code := { maxStack := 7, maxLocals := 5, code := prog_23_method_2_code, exceptionTable := #[], attributes := #[] }
def k3m1 : Method := { name := "intersect", desc := "([II[II[I)I", sig := { parameters := [(.array .int), .int, (.array .int), .int, (.array .int)], returnType := some .int }, accessFlags := 8, code := some k3c1 }
def k3c2 : Code := { maxStack := 5, maxLocals := 10, code := prog_23_method_3_code, exceptionTable := #[], attributes := #[] }
def k3m2 : Method := { name := "lookUp", desc := "([III[III[I)I", sig := { parameters := [(.array .int), .int, .int, (.array .int), .int, .int, (.array .int)], returnType := some .int }, accessFlags := 10, code := some k3c2 }
/-- com/example/vendace/vendace/service/SortedArrays -/
def k3 : Class := { plain "com/example/vendace/vendace/service/SortedArrays" (some 0) with
  accessFlags := 32
  interfaces := #[]
  cf := some (fileOf pool3 8 #[] #[{ accessFlags := 2, nameIndex := 5, descriptorIndex := 6, attributes := #[] }, { accessFlags := 8, nameIndex := 21, descriptorIndex := 22, attributes := #[] }, { accessFlags := 10, nameIndex := 11, descriptorIndex := 12, attributes := #[] }] 32 2 #[] #[])
  fields := #[]
  methods := #[k3m0, k3m1, k3m2]
  instanceTypes := #[]
  staticTypes := #[]
  resolved := Array.replicate 26 none
  statics := none }

def pool4 : Array CpInfo := pool [(2, .class_ 4), (1, u "java/lang/Object"), (0, u "<init>"), (0, u "()V"), (6, .methodref 14 15), (0, .class_ 16), (0, .nameAndType 17 18), (0, u "java/util/Arrays"), (0, u "rangeCheck"), (0, u "(III)V"), (55, .class_ 76), (1, u "java/util/Arrays$NaturalOrder"), (36, .class_ 115), (1, u "java/util/Arrays$LegacyMergeSort"), (1, u "Z"), (89, u "binarySearch0"), (1, .methodref 14 210), (0, .nameAndType 207 211), (0, u "([IIII)I"), (163, .class_ 376), (0, u "java/util/Arrays$ArrayList"), (68, u "$assertionsDisabled"), (269, u "MIN_ARRAY_SORT_GRAN"), (0, u "I"), (2, u "INSERTIONSORT_THRESHOLD"), (74, u "binarySearch"), (180, .class_ 976), (0, u "java/util/Arrays$ArrayItr")] 52

def k4m0 : Method := { name := "<init>", desc := "()V", sig := { parameters := [], returnType := none }, accessFlags := 2, code := none }
def k4c1 : Code := { maxStack := 4, maxLocals := 3, code := jdk_65_method_30_code, exceptionTable := #[], attributes := #[] }
def k4m1 : Method := { name := "rangeCheck", desc := "(III)V", sig := { parameters := [.int, .int, .int], returnType := none }, accessFlags := 8, code := some k4c1 }
def k4c2 : Code := { maxStack := 4, maxLocals := 4, code := jdk_65_method_58_code, exceptionTable := #[], attributes := #[] }
def k4m2 : Method := { name := "binarySearch", desc := "([IIII)I", sig := { parameters := [(.array .int), .int, .int, .int], returnType := some .int }, accessFlags := 9, code := some k4c2 }
def k4c3 : Code := { maxStack := 2, maxLocals := 8, code := jdk_65_method_59_code, exceptionTable := #[], attributes := #[] }
def k4m3 : Method := { name := "binarySearch0", desc := "([IIII)I", sig := { parameters := [(.array .int), .int, .int, .int], returnType := some .int }, accessFlags := 10, code := some k4c3 }
/-- java/util/Arrays -/
def k4 : Class := { plain "java/util/Arrays" (some 0) with
  accessFlags := 49
  interfaces := #[]
  cf := some (fileOf pool4 14 #[.nestMembers #[975, 375, 113, 74]] #[{ accessFlags := 2, nameIndex := 5, descriptorIndex := 6, attributes := #[] }, { accessFlags := 8, nameIndex := 17, descriptorIndex := 18, attributes := #[] }, { accessFlags := 9, nameIndex := 794, descriptorIndex := 211, attributes := #[] }, { accessFlags := 10, nameIndex := 207, descriptorIndex := 211, attributes := #[] }] 49 2 #[] #[{ accessFlags := 26, nameIndex := 715, descriptorIndex := 716, attributes := #[] }, { accessFlags := 26, nameIndex := 719, descriptorIndex := 716, attributes := #[] }, { accessFlags := 4120, nameIndex := 445, descriptorIndex := 117, attributes := #[] }])
  fields := #[{ name := "MIN_ARRAY_SORT_GRAN", type := .int, accessFlags := 26, slot := 0, constantValue := 0 }, { name := "INSERTIONSORT_THRESHOLD", type := .int, accessFlags := 26, slot := 1, constantValue := 0 }, { name := "$assertionsDisabled", type := .boolean, accessFlags := 4120, slot := 2, constantValue := 0 }]
  methods := #[k4m0, k4m1, k4m2, k4m3]
  instanceTypes := #[]
  staticTypes := #[.int, .int, .boolean]
  resolved := Array.replicate 1029 none
  statics := none }

def pool5 : Array CpInfo := pool [(1, u "java/lang/Cloneable"), (0, .class_ 1), (0, u "java/lang/Object"), (0, .class_ 3)] 3

/-- java/lang/Cloneable -/
def k5 : Class := { plain "java/lang/Cloneable" (some 0) with
  accessFlags := 1537
  interfaces := #[]
  cf := some (fileOf pool5 2 #[] #[] 1537 4 #[] #[])
  fields := #[]
  methods := #[]
  instanceTypes := #[]
  staticTypes := #[]
  resolved := Array.replicate 8 none
  statics := none }

def pool6 : Array CpInfo := pool [(1, u "java/io/Serializable"), (0, .class_ 1), (0, u "java/lang/Object"), (0, .class_ 3)] 3

/-- java/io/Serializable -/
def k6 : Class := { plain "java/io/Serializable" (some 0) with
  accessFlags := 1537
  interfaces := #[]
  cf := some (fileOf pool6 2 #[] #[] 1537 4 #[] #[])
  fields := #[]
  methods := #[]
  instanceTypes := #[]
  staticTypes := #[]
  resolved := Array.replicate 8 none
  statics := none }

/-- the primitive byte -/
def k7 : Class := { plain "byte" none with kind := .primitive 'B', accessFlags := 0x411 }
/-- [B -/
def k8 : Class := { plain "[B" (some 0) with kind := .array 7 .byte, interfaces := #[5, 6], accessFlags := 1041 }

/-- the primitive int -/
def k9 : Class := { plain "int" none with kind := .primitive 'I', accessFlags := 0x411 }
/-- [I -/
def k10 : Class := { plain "[I" (some 0) with kind := .array 9 .int, interfaces := #[5, 6], accessFlags := 1041 }

def heap : Heap := #[]
def classes : Array Class := #[k0, k1, k2, k3, k4, k5, k6, k7, k8, k9, k10]
def interned : List (Array UInt16 × Addr) := []
def slotsUsed : Nat := 0
def theMethod : MethodId := ⟨1, 3⟩
def args0 : Array Value := #[.int 1, .int 2, .int 3, .int 4]
def aboutOver (below : List Frame) : State where
  vm := { classes := classes, interned := interned.toArray }
  heap := heap
  slotsUsed := slotsUsed
  threads := #[{ frames := .invoking theMethod args0 :: below }]
def below0 : List Frame := [.native { method := ⟨0, 0⟩, args := #[] }]
def about1 : State := aboutOver below0
def p0 : Program := .bare "" "" ""
def e0 : Env := launch0.env 0 0 0
theorem w_frames : about1.frames = Frame.invoking theMethod args0 :: below0 := rfl
set_option maxRecDepth 65536 in
theorem w_args : argsFit about1.vm theMethod args0 = true := by decide +kernel
set_option maxRecDepth 65536 in
theorem w_heap : heapFits about1 = true := by decide +kernel
set_option maxRecDepth 65536 in
theorem w_runnable : about1.curStatus? = some .runnable := by decide +kernel
set_option maxRecDepth 65536 in
theorem w_alone : about1.alone = true := by decide +kernel
set_option maxRecDepth 65536 in
theorem w_named : about1.methodNamed? x = some theMethod := by decide +kernel
set_option maxRecDepth 65536 in
theorem w_hears : about1.hears theMethod below0 = true := by decide +kernel
set_option maxRecDepth 65536 in
theorem w_ripe : about1.ripe theMethod args0 below0 = true := by decide +kernel
theorem w_running : about1.status = .running := rfl
set_option maxRecDepth 65536 in
theorem w_room : about1.hasRoom e0.platform room_1 = true :=
  launch0.hasRoom_least _ room_1 (by decide +kernel) (by decide +kernel) (by decide +kernel) (by decide +kernel) (by decide +kernel) (by decide +kernel)
theorem allAtoms_all (ts : List Jvm.Cond) (a : Array Jvm.Value) (st : Jvm.State) : (allAtoms ts).before a st = ts.all (fun c => c.before a st) := by
  induction ts with
  | nil => rfl
  | cons c t ih =>
    show (Jvm.Cond.and c (allAtoms t)).before a st = _
    rw [Jvm.Cond.before_and, ih, List.all_cons]
def words1 : List Jvm.Cond := Jvm.Cond.code x code maxLocals ret :: tables_1
/-- a 'code' word, met by the world's own term for the bytes: nothing is compared byte by byte -/
theorem code_word {y : MethodName} {bytes : ByteArray} {mx : Nat} {rt : Option FieldType} {a : Array Value} {s : State} {m : MethodId} {meth : Method} {c : Code} (h1 : s.methodNamed? y = some m) (h2 : s.vm.method? m = some meth) (h3 : meth.code = some c) (h4 : c.code = bytes)
    (h5 : (c.maxLocals == mx && c.exceptionTable.isEmpty && decide (c.maxStack ≤ mostOperands) && decide (meth.sig.returnType = rt) && !meth.locks && decide (parseMethodDescriptor y.desc = some meth.sig)) = true) : (Jvm.Cond.code y bytes mx rt).before a s = true := by
  simp only [Bool.and_eq_true, beq_iff_eq, Bool.not_eq_true', decide_eq_true_eq] at h5
  obtain ⟨⟨⟨⟨⟨g1, g2⟩, g3⟩, g4⟩, g5⟩, g6⟩ := h5
  simp [Cond.before, Cond.holds, Cond.value, h1, h2, h3, h4, g1, g2, g3, g4, g5, g6]
def isCode : Jvm.Cond → Bool
  | .code _ _ _ _ => true
  | _ => false
theorem all_split {L : List Jvm.Cond} {P : Jvm.Cond → Bool} (h1 : L.all (fun c => isCode c || P c) = true) (h2 : ∀ c ∈ L.filter isCode, P c = true) : L.all P = true := by
  refine List.all_eq_true.mpr fun c hc => ?_
  have h := List.all_eq_true.mp h1 c hc
  rcases Bool.eq_false_or_eq_true (isCode c) with hi | hi
  · exact h2 c (List.mem_filter.mpr ⟨hc, hi⟩)
  · simpa [hi] using h
set_option maxRecDepth 65536 in
theorem w_c0 : (Jvm.Cond.code x code maxLocals ret).before args0 about1 = true := code_word (m := ⟨1, 3⟩) (meth := k1m3) (c := k1c3) (by decide +kernel) rfl rfl rfl (by decide +kernel)
set_option maxRecDepth 65536 in
theorem w_c1 : (Jvm.Cond.code ({ cls := "java/lang/Math", name := "min", desc := "(II)I" } : Jvm.MethodName) jdk_29_method_69_code (2 : Nat) (Option.some Jvm.ClassFile.FieldType.int)).before args0 about1 = true := code_word (m := ⟨2, 1⟩) (meth := k2m1) (c := k2c1) (by decide +kernel) rfl rfl rfl (by decide +kernel)
set_option maxRecDepth 65536 in
theorem w_c2 : (Jvm.Cond.code ({ cls := "com/example/vendace/vendace/service/SortedArrays", name := "intersect", desc := "([II[II[I)I" } : Jvm.MethodName) prog_23_method_2_code (5 : Nat) (Option.some Jvm.ClassFile.FieldType.int)).before args0 about1 = true := code_word (m := ⟨3, 1⟩) (meth := k3m1) (c := k3c1) (by decide +kernel) rfl rfl rfl (by decide +kernel)
set_option maxRecDepth 65536 in
theorem w_c3 : (Jvm.Cond.code ({ cls := "com/example/vendace/vendace/service/SortedArrays", name := "lookUp", desc := "([III[III[I)I" } : Jvm.MethodName) prog_23_method_3_code (10 : Nat) (Option.some Jvm.ClassFile.FieldType.int)).before args0 about1 = true := code_word (m := ⟨3, 2⟩) (meth := k3m2) (c := k3c2) (by decide +kernel) rfl rfl rfl (by decide +kernel)
set_option maxRecDepth 65536 in
theorem w_c4 : (Jvm.Cond.code ({ cls := "com/example/vendace/vendace/service/SortedArraysIntersectPinLaw", name := "holds", desc := "([III)Z" } : Jvm.MethodName) method_2_code (3 : Nat) (Option.some Jvm.ClassFile.FieldType.boolean)).before args0 about1 = true := code_word (m := ⟨1, 1⟩) (meth := k1m1) (c := k1c1) (by decide +kernel) rfl rfl rfl (by decide +kernel)
set_option maxRecDepth 65536 in
theorem w_c5 : (Jvm.Cond.code ({ cls := "com/example/vendace/vendace/service/SortedArraysIntersectPinLaw", name := "slot", desc := "([I[IIII)Z" } : Jvm.MethodName) method_3_code (5 : Nat) (Option.some Jvm.ClassFile.FieldType.boolean)).before args0 about1 = true := code_word (m := ⟨1, 2⟩) (meth := k1m2) (c := k1c2) (by decide +kernel) rfl rfl rfl (by decide +kernel)
set_option maxRecDepth 65536 in
theorem w_c6 : (Jvm.Cond.code ({ cls := "java/util/Arrays", name := "binarySearch", desc := "([IIII)I" } : Jvm.MethodName) jdk_65_method_58_code (4 : Nat) (Option.some Jvm.ClassFile.FieldType.int)).before args0 about1 = true := code_word (m := ⟨4, 2⟩) (meth := k4m2) (c := k4c2) (by decide +kernel) rfl rfl rfl (by decide +kernel)
set_option maxRecDepth 65536 in
theorem w_c7 : (Jvm.Cond.code ({ cls := "java/util/Arrays", name := "rangeCheck", desc := "(III)V" } : Jvm.MethodName) jdk_65_method_30_code (3 : Nat) (Option.none : Option Jvm.ClassFile.FieldType)).before args0 about1 = true := code_word (m := ⟨4, 1⟩) (meth := k4m1) (c := k4c1) (by decide +kernel) rfl rfl rfl (by decide +kernel)
set_option maxRecDepth 65536 in
theorem w_c8 : (Jvm.Cond.code ({ cls := "java/util/Arrays", name := "binarySearch0", desc := "([IIII)I" } : Jvm.MethodName) jdk_65_method_59_code (8 : Nat) (Option.some Jvm.ClassFile.FieldType.int)).before args0 about1 = true := code_word (m := ⟨4, 3⟩) (meth := k4m3) (c := k4c3) (by decide +kernel) rfl rfl rfl (by decide +kernel)
def codes1 : List Jvm.Cond := [Jvm.Cond.code x code maxLocals ret, Jvm.Cond.code ({ cls := "java/lang/Math", name := "min", desc := "(II)I" } : Jvm.MethodName) jdk_29_method_69_code (2 : Nat) (Option.some Jvm.ClassFile.FieldType.int), Jvm.Cond.code ({ cls := "com/example/vendace/vendace/service/SortedArrays", name := "intersect", desc := "([II[II[I)I" } : Jvm.MethodName) prog_23_method_2_code (5 : Nat) (Option.some Jvm.ClassFile.FieldType.int), Jvm.Cond.code ({ cls := "com/example/vendace/vendace/service/SortedArrays", name := "lookUp", desc := "([III[III[I)I" } : Jvm.MethodName) prog_23_method_3_code (10 : Nat) (Option.some Jvm.ClassFile.FieldType.int), Jvm.Cond.code ({ cls := "com/example/vendace/vendace/service/SortedArraysIntersectPinLaw", name := "holds", desc := "([III)Z" } : Jvm.MethodName) method_2_code (3 : Nat) (Option.some Jvm.ClassFile.FieldType.boolean), Jvm.Cond.code ({ cls := "com/example/vendace/vendace/service/SortedArraysIntersectPinLaw", name := "slot", desc := "([I[IIII)Z" } : Jvm.MethodName) method_3_code (5 : Nat) (Option.some Jvm.ClassFile.FieldType.boolean), Jvm.Cond.code ({ cls := "java/util/Arrays", name := "binarySearch", desc := "([IIII)I" } : Jvm.MethodName) jdk_65_method_58_code (4 : Nat) (Option.some Jvm.ClassFile.FieldType.int), Jvm.Cond.code ({ cls := "java/util/Arrays", name := "rangeCheck", desc := "(III)V" } : Jvm.MethodName) jdk_65_method_30_code (3 : Nat) (Option.none : Option Jvm.ClassFile.FieldType), Jvm.Cond.code ({ cls := "java/util/Arrays", name := "binarySearch0", desc := "([IIII)I" } : Jvm.MethodName) jdk_65_method_59_code (8 : Nat) (Option.some Jvm.ClassFile.FieldType.int)]
set_option maxRecDepth 65536 in
theorem codes_eq : words1.filter isCode = codes1 := rfl
theorem w_codes : ∀ c ∈ words1.filter isCode, c.before args0 about1 = true := by
  rw [codes_eq]
  intro c hc
  simp only [codes1, List.mem_cons, List.not_mem_nil, or_false] at hc
  rcases hc with rfl | rfl | rfl | rfl | rfl | rfl | rfl | rfl | rfl
  · exact w_c0
  · exact w_c1
  · exact w_c2
  · exact w_c3
  · exact w_c4
  · exact w_c5
  · exact w_c6
  · exact w_c7
  · exact w_c8
set_option maxRecDepth 65536 in
theorem w_t1 : (words1.take 24).all (fun c => isCode c || c.before args0 about1) = true := by decide +kernel
set_option maxRecDepth 65536 in
theorem w_t2 : (words1.drop 24).all (fun c => isCode c || c.before args0 about1) = true := by decide +kernel
theorem w_tables : (allAtoms (Jvm.Cond.code x code maxLocals ret :: tables_1)).before args0 about1 = true := by
  rw [allAtoms_all]
  show words1.all (fun c => c.before args0 about1) = true
  refine all_split ?_ w_codes
  rw [← List.take_append_drop 24 words1, List.all_append, w_t1, w_t2]
  rfl
set_option maxRecDepth 65536 in
theorem w_case : (Jvm.Cond.and given_1 narrow_1).before args0 about1 = true := by decide +kernel
theorem w_applies : (headSpec (Jvm.Cond.code x code maxLocals ret :: tables_1) room_1).applies x e0.platform about1 = true :=
  (Spec.applies_iff w_frames).mpr ⟨w_running, w_runnable, w_alone, w_named, w_hears, w_ripe, w_room, w_tables⟩
theorem atStart : AtStart classFile x code maxLocals ret World_1 tables_1 room_1 Calls_1 rest_1 Pre_1 launch0 p0 e0 about1 theMethod args0 below0 :=
  ⟨lists_1, trivial, launch0.admits_env _ _ _, launch0.least_env, fairChoices_fair.cas, fairChoices_fair.clock, w_frames, w_args, w_heap, w_applies, trivial, trivial, w_case⟩
end start1
theorem witness_1 : WitnessClaimed_1 := ⟨start1.p0, start1.e0, start1.about1, start1.theMethod, start1.args0, start1.below0, start1.atStart⟩
end Jvm.Pilot.@@N@@
