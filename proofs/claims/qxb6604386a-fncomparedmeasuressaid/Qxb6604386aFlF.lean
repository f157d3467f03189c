/- The law's inequality over doubles. -/
import Derived.Test.Qxb6604386aFlE
namespace Go.Proofs.Qxb6604386a.Fl
open Ieee
set_option linter.unusedVariables false

/-- 1e-150, 1e150, 4.5e-16, 1e-160, in units. -/
def kLo : Nat := 7371020360979573 * 2 ^ 523
def kHi : Nat := 5503284107318959 * 2 ^ 1520
def kC1 : Nat := 4563542160821626 * 2 ^ 971
def kC2 : Nat := 6331658277711476 * 2 ^ 490

theorem eq_lo : (kLo : Int) = sg false (7371020360979573 * 2 ^ ((-551 : Int) + 1074).toNat) := by decide +kernel
theorem fin_lo : Fin 2362753625475748981 (kLo : Int) := ⟨false, 7371020360979573, -551, by decide +kernel, by decide, by decide, eq_lo⟩
theorem eq_hi : (kHi : Int) = sg false (5503284107318959 * 2 ^ ((446 : Int) + 1074).toNat) := by decide +kernel
theorem fin_hi : Fin 6850974717710472879 (kHi : Int) := ⟨false, 5503284107318959, 446, by decide +kernel, by decide, by decide, eq_hi⟩
theorem eq_c1 : (kC1 : Int) = sg false (4563542160821626 * 2 ^ ((-103 : Int) + 1074).toNat) := by decide +kernel
theorem fin_c1 : Fin 4377558780337573242 (kC1 : Int) := ⟨false, 4563542160821626, -103, by decide +kernel, by decide, by decide, eq_c1⟩
theorem eq_c2 : (kC2 : Int) = sg false (6331658277711476 * 2 ^ ((-584 : Int) + 1074).toNat) := by decide +kernel
theorem fin_c2 : Fin 2213095475689254516 (kC2 : Int) := ⟨false, 6331658277711476, -584, by decide +kernel, by decide, by decide, eq_c2⟩

theorem rel1 : 20 * kHi < BIG := by decide +kernel
theorem rel2 : 20 * (U * kHi) < BIG * kLo := by decide +kernel
theorem rel3 : 405 * U ≤ 2 ^ 53 * (100 * kC1) := by decide +kernel
theorem rel4 : kC1 ≤ U := by decide +kernel
theorem rel5 : 100 * kHi + 100 * U ≤ U * kC2 := by decide +kernel
theorem rel6 : kC2 ≤ kHi := by decide +kernel
theorem rel7 : 1 ≤ U := by decide +kernel
theorem rel8 : 1 ≤ kLo := by decide +kernel
theorem rel9 : 2 ^ 53 ≤ kHi := by decide +kernel

/-- The linear heart. -/
theorem heart (a m u q e l x y k c : Int) (ha : 0 ≤ a) (hm : 0 ≤ m) (hu : 0 ≤ u) (hx : 0 ≤ x) (hc : 0 ≤ c)
    (h1 : 2 ^ 53 * l ≤ 2 ^ 53 * e + e + 2 ^ 52 * u) (h2 : 2 ^ 53 * e ≤ 2 * a + 2 ^ 52 * m + q + 2 ^ 52 * u) (h3 : 2 ^ 53 * q ≤ 2 ^ 53 * a + 2 * a + 2 ^ 52 * m)
    (h4 : 2 ^ 53 * c ≤ 2 ^ 53 * x + c + 2 ^ 52 * u) (h5 : 405 * a ≤ 2 ^ 53 * (100 * c)) (h6 : 2 ^ 53 * (x + k) ≤ 2 ^ 53 * y + (x + k) + 2 ^ 52 * u) (h7 : 100 * m + 100 * u ≤ k) : l ≤ y := by
  omega

theorem near1 {V E : Int} (h : NearI V E 1) : 2 ^ 53 * V ≤ 2 ^ 53 * E + E.natAbs + 2 ^ 52 ∧ 2 ^ 53 * E ≤ 2 ^ 53 * V + E.natAbs + 2 ^ 52 := by
  unfold NearI at h; omega

theorem natAbs_le {E : Int} {b : Nat} (h1 : E ≤ b) (h2 : -E ≤ b) : E.natAbs ≤ b := by omega

/-- THE LAW's INEQUALITY: of two numbers v, m (m not too small, neither too great) the quotient '(v - m) / m', times m, is 'v - m' up to what the law allows; every operation is valid. -/
theorem float_law {v md : Nat} {A M : Int} (hv : Fin v A) (hm : Fin md M) (hlo : (kLo : Int) ≤ M.natAbs) (hhi : (M.natAbs : Int) ≤ kHi) (hA : (A.natAbs : Int) ≤ kHi) :
    ∃ d q bk e x y, double.sub v md = some d ∧ double.div d md = some q ∧ double.mul q md = some bk ∧ double.sub bk d = some e ∧ double.mul (absB d) 4377558780337573242 = some x ∧ double.add x 2213095475689254516 = some y ∧
      (double.order (absB e) y == some .lt || double.order (absB e) y == some .eq) = true := by
  have r1 := rel1
  have r4 := rel4
  have r6 := rel6
  have r7 := rel7
  have r8 := rel8
  have r9 := rel9
  have hlo' : kLo ≤ M.natAbs := by omega
  have hhi' : M.natAbs ≤ kHi := by omega
  -- d
  obtain ⟨d, D, o1, f1, n1⟩ := sub_fin hv hm (by omega)
  replace n1 := near1 n1
  have hD : D.natAbs ≤ 5 * kHi := by omega
  have fa := abs_fin f1
  -- q
  have hUD : U * D.natAbs ≤ U * (5 * kHi) := Nat.mul_le_mul_left _ hD
  have e5 : U * (5 * kHi) = 5 * (U * kHi) := Nat.mul_left_comm _ _ _
  have hBM : BIG * kLo ≤ BIG * M.natAbs := Nat.mul_le_mul_left _ hlo'
  obtain ⟨q, Q, o2, f2, n2, n2'⟩ := div_fin f1 hm (by omega) (by have := rel2; omega)
  -- names for the products
  have hkU : kHi ≤ U * kHi := Nat.le_mul_of_pos_left _ (by omega)
  have hUB : U * (20 * kHi) ≤ U * BIG := Nat.mul_le_mul_left _ (Nat.le_of_lt r1)
  have e20 : U * (20 * kHi) = 20 * (U * kHi) := Nat.mul_left_comm _ _ _
  have eUB : BIG * U = U * BIG := Nat.mul_comm _ _
  have eUD : (U : Int) * D.natAbs = ((U * D.natAbs : Nat) : Int) := (Int.natCast_mul _ _).symm
  have aUD : ((U : Int) * D).natAbs = U * D.natAbs := by rw [Int.natAbs_mul, Int.natAbs_natCast]
  rw [eUD] at n2 n2'
  -- back
  have hQM : (Q * M).natAbs < BIG * U := by
    rw [eUB]
    generalize Q * M = P at *
    generalize (U : Int) * D = UD at *
    generalize U * D.natAbs = a at *
    generalize U * kHi = kk at *
    generalize U * BIG = BU at *
    omega
  obtain ⟨bk, B, o3, f3, n3, n3'⟩ := mul_fin f2 hm hQM
  -- the difference
  have hUE : (U : Int) * (B - D) = B * U - U * D := by rw [Int.mul_sub, Int.mul_comm]
  have hE : 2 ^ 53 * ((U : Int) * (B - D)).natAbs ≤ 2 * (U * D.natAbs) + 2 ^ 52 * M.natAbs + (Q * M).natAbs + 2 ^ 52 * U := by
    rw [hUE]
    generalize Q * M = P at *
    generalize B * (U : Int) = BU at *
    generalize (U : Int) * D = UD at *
    generalize U * D.natAbs = a at *
    omega
  have hP : 2 ^ 53 * (Q * M).natAbs ≤ 2 ^ 53 * (U * D.natAbs) + 2 * (U * D.natAbs) + 2 ^ 52 * M.natAbs := by
    generalize Q * M = P at *
    generalize (U : Int) * D = UD at *
    generalize U * D.natAbs = a at *
    omega
  have aUE : ((U : Int) * (B - D)).natAbs = U * (B - D).natAbs := by rw [Int.natAbs_mul, Int.natAbs_natCast]
  rw [aUE] at hE
  have hEb : (B - D).natAbs < BIG := by
    refine Nat.lt_of_mul_lt_mul_left (a := U) ?_
    have hU1 : U ≤ U * kHi := Nat.le_mul_of_pos_right _ (by omega)
    generalize (Q * M).natAbs = P at *
    generalize U * (B - D).natAbs = ue at *
    generalize U * D.natAbs = a at *
    generalize U * kHi = kk at *
    generalize U * BIG = BU at *
    omega
  obtain ⟨e, L, o4, f4, n4⟩ := sub_fin f3 f1 hEb
  replace n4 := near1 n4
  have fl := abs_fin f4
  -- the right side
  have hc1 : D.natAbs * kC1 ≤ D.natAbs * U := Nat.mul_le_mul_left _ r4
  have eDU : D.natAbs * U = U * D.natAbs := Nat.mul_comm _ _
  have aDC : ((D.natAbs : Int) * (kC1 : Int)).natAbs = D.natAbs * kC1 := by rw [Int.natAbs_mul, Int.natAbs_natCast, Int.natAbs_natCast]
  have eDC : (D.natAbs : Int) * (kC1 : Int) = ((D.natAbs * kC1 : Nat) : Int) := (Int.natCast_mul _ _).symm
  obtain ⟨x, X, o5, f5, n5, n5'⟩ := mul_fin fa fin_c1 (by
    rw [aDC, eUB]
    generalize D.natAbs * kC1 = c at *
    generalize U * D.natAbs = a at *
    generalize U * kHi = kk at *
    generalize U * BIG = BU at *
    omega)
  rw [aDC, eDC] at n5 n5'
  have hX0 : 0 ≤ X := by
    rcases Int.lt_or_le X 0 with h | h
    · exfalso
      have h1 : X * (U : Int) ≤ (-1) * (U : Int) := Int.mul_le_mul_of_nonneg_right (by omega) (Int.natCast_nonneg _)
      generalize X * (U : Int) = XU at *
      generalize D.natAbs * kC1 = c at *
      omega
    · exact h
  have hXb : X ≤ 2 * D.natAbs + 1 := by
    rcases Int.lt_or_le (2 * (D.natAbs : Int) + 1) X with h | h
    · exfalso
      have h1 : (2 * (D.natAbs : Int) + 1 + 1) * (U : Int) ≤ X * (U : Int) := Int.mul_le_mul_of_nonneg_right (by omega) (Int.natCast_nonneg _)
      have h2 : (2 * (D.natAbs : Int) + 1 + 1) * (U : Int) = 2 * ((U * D.natAbs : Nat) : Int) + 2 * U := by
        rw [← eUD, Int.add_mul, Int.add_mul, Int.mul_assoc, Int.mul_comm (D.natAbs : Int)]; omega
      rw [h2] at h1
      generalize X * (U : Int) = XU at *
      generalize D.natAbs * kC1 = c at *
      generalize U * D.natAbs = a at *
      omega
    · exact h
  obtain ⟨y, Y, o6, f6, n6⟩ := add_fin f5 fin_c2 (by omega)
  replace n6 := near1 n6
  refine ⟨d, q, bk, e, x, y, o1, o2, o3, o4, o5, o6, ?_⟩
  rw [leq_fin fl f6]
  refine decide_eq_true ?_
  -- the heart, times U
  have hU0 : (0 : Int) < U := by omega
  refine Int.le_of_mul_le_mul_left (a := (U : Int)) ?_ hU0
  have r3 := Nat.mul_le_mul_right D.natAbs rel3
  have e3a : 405 * U * D.natAbs = 405 * (U * D.natAbs) := Nat.mul_assoc _ _ _
  have e3b : 2 ^ 53 * (100 * kC1) * D.natAbs = 2 ^ 53 * (100 * (D.natAbs * kC1)) := by rw [Nat.mul_assoc, Nat.mul_assoc 100, Nat.mul_comm kC1]
  rw [e3a, e3b] at r3
  have n4a : 2 ^ 53 * (L.natAbs : Int) ≤ 2 ^ 53 * ((B - D).natAbs : Int) + ((B - D).natAbs : Int) + 2 ^ 52 := by omega
  have n6a : 2 ^ 53 * (X + kC2) ≤ 2 ^ 53 * Y + (X + kC2) + 2 ^ 52 := by omega
  have m4 := Int.mul_le_mul_of_nonneg_left n4a (Int.le_of_lt hU0)
  have m6 := Int.mul_le_mul_of_nonneg_left n6a (Int.le_of_lt hU0)
  have s4 : (U : Int) * (2 ^ 53 * (L.natAbs : Int)) = 2 ^ 53 * (U * (L.natAbs : Int)) := Int.mul_left_comm _ _ _
  have s5 : (U : Int) * (2 ^ 53 * ((B - D).natAbs : Int) + ((B - D).natAbs : Int) + 2 ^ 52) = 2 ^ 53 * (U * ((B - D).natAbs : Int)) + U * ((B - D).natAbs : Int) + 2 ^ 52 * U := by
    rw [Int.mul_add, Int.mul_add, Int.mul_left_comm, Int.mul_comm (U : Int) (2 ^ 52)]
  have s6 : (U : Int) * (2 ^ 53 * (X + kC2)) = 2 ^ 53 * (X * U + U * kC2) := by
    rw [Int.mul_left_comm, Int.mul_add (U : Int), Int.mul_comm (U : Int) X]
  have s7 : (U : Int) * (2 ^ 53 * Y + (X + kC2) + 2 ^ 52) = 2 ^ 53 * (U * Y) + (X * U + U * kC2) + 2 ^ 52 * U := by
    rw [Int.mul_add, Int.mul_add, Int.mul_left_comm, Int.mul_add (U : Int) X, Int.mul_comm (U : Int) X, Int.mul_comm (U : Int) (2 ^ 52)]
  rw [s4, s5] at m4
  rw [s6, s7] at m6
  have eE : (U : Int) * ((B - D).natAbs : Int) = ((U * (B - D).natAbs : Nat) : Int) := (Int.natCast_mul _ _).symm
  have eK : (U : Int) * (kC2 : Int) = ((U * kC2 : Nat) : Int) := (Int.natCast_mul _ _).symm
  rw [eE] at m4
  rw [eK] at m6
  have hxU : 0 ≤ X * (U : Int) := Int.mul_nonneg hX0 (Int.le_of_lt hU0)
  refine heart ((U * D.natAbs : Nat) : Int) (M.natAbs : Int) (U : Int) ((Q * M).natAbs : Int) ((U * (B - D).natAbs : Nat) : Int) _ (X * U) _ ((U * kC2 : Nat) : Int) ((D.natAbs * kC1 : Nat) : Int) (Int.natCast_nonneg _) (Int.natCast_nonneg _) (Int.natCast_nonneg _) hxU (Int.natCast_nonneg _) m4 ?_ ?_ n5' ?_ m6 ?_
  · generalize (Q * M).natAbs = P at *
    generalize U * (B - D).natAbs = ue at *
    generalize U * D.natAbs = a at *
    omega
  · generalize (Q * M).natAbs = P at *
    generalize U * D.natAbs = a at *
    omega
  · generalize U * D.natAbs = a at *
    generalize D.natAbs * kC1 = c at *
    omega
  · have := rel5
    generalize U * kC2 = kk at *
    omega
end Go.Proofs.Qxb6604386a.Fl
