/- Division in whole numbers, the order, the sign. -/
import Derived.Test.Qxb6604386aFlD
namespace Go.Proofs.Qxb6604386a.Fl
open Ieee

theorem log2_lt {m : Nat} (h : m < 2 ^ 53) : m.log2 ≤ 52 := by
  by_cases h0 : m = 0
  · subst h0; simp
  · have h1 : 2 ^ m.log2 ≤ m := Nat.log2_self_le h0
    have h2 : 2 ^ m.log2 < 2 ^ 53 := Nat.lt_of_le_of_lt h1 h
    have := (Nat.pow_lt_pow_iff_right (a := 2) (by decide)).1 h2
    omega

/-- 'Q * M' is 'U * D' up to two parts in 2 ^ 53 and half of M. -/
def NearQ (Q M D : Int) : Prop := 2 ^ 53 * (Q * M) ≤ 2 ^ 53 * (U * D) + 2 * (U * D.natAbs) + 2 ^ 52 * M.natAbs ∧ 2 ^ 53 * (U * D) ≤ 2 ^ 53 * (Q * M) + 2 * (U * D.natAbs) + 2 ^ 52 * M.natAbs

theorem div_fin {x y : Nat} {D M : Int} (hx : Fin x D) (hy : Fin y M) (hM : M ≠ 0) (hb : 2 * (U * D.natAbs) < BIG * M.natAbs) : ∃ r Q, double.div x y = some r ∧ Fin r Q ∧ NearQ Q M D := by
  obtain ⟨s, m, i, h1, h2, h3, rfl⟩ := hx
  obtain ⟨t, n, j, k1, k2, k3, rfl⟩ := hy
  rw [sg_natAbs, sg_natAbs] at hb
  have hn : n ≠ 0 := by rintro rfl; apply hM; rw [Nat.zero_mul, sg_zero]
  unfold Format.div
  rw [h1, k1, fb]
  unfold Datum.quotient
  simp only [if_neg hn, Option.map_some, Nat.shiftLeft_eq]
  obtain ⟨a, ha⟩ : ∃ a : Nat, i + 1074 = a := ⟨(i + 1074).toNat, by omega⟩
  obtain ⟨b, hb'⟩ : ∃ b : Nat, j + 1074 = b := ⟨(j + 1074).toNat, by omega⟩
  have ea : (i + 1074).toNat = a := by omega
  have eb : (j + 1074).toNat = b := by omega
  rw [ea, eb] at hb ⊢
  clear hM
  by_cases hm : m = 0
  · subst hm
    refine ⟨_, 0, rfl, ?_, ?_⟩
    · have e : 2 * (0 * 2 ^ (52 + 2 + n.log2 - Nat.log2 0) / n) + (0 * 2 ^ (52 + 2 + n.log2 - Nat.log2 0) % n != 0).toNat = 0 := by simp
      rw [e]
      show Fin (double.nearest _ 0 _) 0
      unfold Format.nearest
      rw [if_pos rfl]; exact fin_zero _
    · unfold NearQ
      rw [Nat.zero_mul, sg_zero]
      simp
      omega
  · obtain ⟨more, hmore⟩ : ∃ more, 52 + 2 + n.log2 - m.log2 = more := ⟨_, rfl⟩
    rw [hmore]
    have hl := log2_lt h3
    obtain ⟨N, q1, q2, q3⟩ := quot_mag (s ^^ t) m n a b more (i - j - more - 1) hm hn (by omega) (by omega) hb
    refine ⟨_, _, rfl, q1, ?_⟩
    have e1 : sg (s ^^ t) N * sg t (n * 2 ^ b) = sg s (N * (n * 2 ^ b)) := by
      rw [← sg_xor]; congr 1; cases s <;> cases t <;> rfl
    have e2 : (U : Int) * sg s (m * 2 ^ a) = sg s (U * (m * 2 ^ a)) := by
      rw [Nat.mul_comm U, sg_scale s (m * 2 ^ a), Int.mul_comm]
    unfold NearQ
    rw [e1, e2, sg_natAbs, sg_natAbs]
    have e3 : (U : Int) * ((m * 2 ^ a : Nat) : Int) = ((U * (m * 2 ^ a) : Nat) : Int) := by rw [Int.natCast_mul U]
    rw [e3]
    generalize N * (n * 2 ^ b) = X at *
    generalize U * (m * 2 ^ a) = Y at *
    generalize n * 2 ^ b = Z at *
    cases s <;> simp only [sg, if_true, Bool.false_eq_true, if_false] <;> omega

theorem compare_scale (a b : Int) (c : Nat) (hc : 0 < c) : compare (a * c) (b * c) = compare a b := by
  have hc' : (0 : Int) < c := by omega
  show compareOfLessAndEq _ _ = compareOfLessAndEq _ _
  unfold compareOfLessAndEq
  rcases Int.lt_trichotomy a b with h | h | h
  · have := Int.mul_lt_mul_of_pos_right h hc'
    rw [if_pos h, if_pos this]
  · subst h; simp
  · have h1 := Int.mul_lt_mul_of_pos_right h hc'
    rw [if_neg (by omega), if_neg (by omega), if_neg (by omega), if_neg (by omega)]

theorem order_fin {x y : Nat} {A B : Int} (hx : Fin x A) (hy : Fin y B) : double.order x y = some (compare A B) := by
  obtain ⟨s, m, i, h1, h2, _, rfl⟩ := hx
  obtain ⟨t, n, j, k1, k2, _, rfl⟩ := hy
  unfold Format.order
  rw [h1, k1]
  unfold Datum.order
  simp only [signed_eq]
  obtain ⟨base, hbase⟩ : ∃ b, b = min i j := ⟨_, rfl⟩
  rw [← hbase]
  obtain ⟨g, hg⟩ : ∃ g : Nat, base + 1074 = g := ⟨(base + 1074).toNat, by omega⟩
  obtain ⟨a, ha⟩ : ∃ a, (i - base).toNat = a := ⟨_, rfl⟩
  obtain ⟨b, hb'⟩ : ∃ b, (j - base).toNat = b := ⟨_, rfl⟩
  rw [ha, hb', show (i + 1074).toNat = a + g by omega, show (j + 1074).toNat = b + g by omega, Nat.pow_add, Nat.pow_add, ← Nat.mul_assoc, ← Nat.mul_assoc, sg_scale s (m * 2 ^ a), sg_scale t (n * 2 ^ b), compare_scale _ _ _ (Nat.two_pow_pos _)]

theorem compare_lt {A B : Int} (h : A < B) : compare A B = .lt := by
  show compareOfLessAndEq _ _ = _
  unfold compareOfLessAndEq; rw [if_pos h]
theorem compare_gt {A B : Int} (h : B < A) : compare A B = .gt := by
  show compareOfLessAndEq _ _ = _
  unfold compareOfLessAndEq; rw [if_neg (by omega), if_neg (by omega)]
theorem compare_eq {A B : Int} (h : A = B) : compare A B = .eq := by
  subst h
  show compareOfLessAndEq _ _ = _
  unfold compareOfLessAndEq; rw [if_neg (by omega), if_pos rfl]

/-- 'x <= y' of two numbers. -/
theorem leq_fin {x y : Nat} {A B : Int} (hx : Fin x A) (hy : Fin y B) : (double.order x y == some .lt || double.order x y == some .eq) = decide (A ≤ B) := by
  rw [order_fin hx hy]
  rcases Int.lt_trichotomy A B with h | h | h
  · rw [compare_lt h]; simp; omega
  · rw [compare_eq h]; simp; omega
  · rw [compare_gt h]; simp; omega
theorem geq_fin {x y : Nat} {A B : Int} (hx : Fin x A) (hy : Fin y B) : (double.order x y == some .gt || double.order x y == some .eq) = decide (B ≤ A) := by
  rw [order_fin hx hy]
  rcases Int.lt_trichotomy A B with h | h | h
  · rw [compare_lt h]; simp; omega
  · rw [compare_eq h]; simp; omega
  · rw [compare_gt h]; simp; omega
theorem lss_fin {x y : Nat} {A B : Int} (hx : Fin x A) (hy : Fin y B) : (double.order x y == some .lt) = decide (A < B) := by
  rw [order_fin hx hy]
  rcases Int.lt_trichotomy A B with h | h | h
  · rw [compare_lt h]; simp; omega
  · rw [compare_eq h]; simp; omega
  · rw [compare_gt h]; simp; omega

/-- The sign turned. -/
theorem read_flip (x : Nat) : double.read (x ^^^ 2 ^ 63) = (double.read x).opposite := by
  have h1 : (x ^^^ 2 ^ 63) % 2 ^ 63 = x % 2 ^ 63 := by
    rw [Nat.xor_mod_two_pow]; simp
  have h2 : ((x ^^^ 2 ^ 63) / 2 ^ 63 % 2 == 1) = !(x / 2 ^ 63 % 2 == 1) := by
    rw [Nat.xor_div_two_pow, show (2 ^ 63 / 2 ^ 63 : Nat) = 1 by decide]
    generalize x / 2 ^ 63 = q
    have e := Nat.xor_mod_two_pow (a := q) (b := 1) (n := 1)
    rw [Nat.pow_one] at e
    rw [e]
    rcases Nat.mod_two_eq_zero_or_one q with h | h <;> rw [h] <;> rfl
  unfold Format.read
  simp only [sw, h1, h2]
  split
  · rfl
  · split
    · rfl
    · split <;> rfl

theorem flip_fin {x : Nat} {A : Int} (h : Fin x A) : Fin (x ^^^ 2 ^ 63) (-A) := by
  obtain ⟨s, m, i, h1, h2, h3, rfl⟩ := h
  refine ⟨!s, m, i, ?_, h2, h3, ?_⟩
  · rw [read_flip, h1]; rfl
  · rw [sg_neg]
theorem fin_0 : Fin 0 0 := fin_zero false

/-- What absF gives of a number. -/
def absB (x : Nat) : Nat := if double.order x 0 == some .lt then x ^^^ 2 ^ 63 else x
theorem abs_fin {x : Nat} {A : Int} (h : Fin x A) : Fin (absB x) (A.natAbs : Int) := by
  unfold absB
  rw [lss_fin h fin_0]
  by_cases hA : A < 0
  · rw [if_pos (by simpa using hA)]
    have := flip_fin h
    rwa [show -A = (A.natAbs : Int) by omega] at this
  · rw [if_neg (by simpa using hA)]
    rwa [show A = (A.natAbs : Int) by omega] at h
end Go.Proofs.Qxb6604386a.Fl
