/- Quotient, order, sign. -/
import Derived.Test.Qxb6604386aFlC
namespace Go.Proofs.Qxb6604386a.Fl
open Ieee

/-- The quotient with its sticky digit. -/
theorem sticky (dividend n : Nat) (hn : 0 < n) : (2 * (dividend / n) + (dividend % n != 0).toNat) * n ≤ 2 * dividend + n ∧ 2 * dividend ≤ (2 * (dividend / n) + (dividend % n != 0).toNat) * n + n := by
  have hd := Nat.div_add_mod dividend n
  have hr := Nat.mod_lt dividend hn
  generalize dividend / n = q at *
  generalize dividend % n = r at *
  have hc : n * q = q * n := Nat.mul_comm _ _
  by_cases h : r = 0
  · subst h
    simp only [bne_self_eq_false, Bool.toNat_false, Nat.add_zero, Nat.mul_assoc]
    omega
  · have hb : (r != 0) = true := by simpa using h
    rw [hb, Nat.add_mul, Nat.mul_assoc]
    simp only [Bool.toNat_true, Nat.one_mul]
    omega

theorem U_mul (k : Nat) : 2 ^ (1074 + k) = U * 2 ^ k := by unfold U; rw [Nat.pow_add]

/-- The magnitudes of a division. -/
theorem quot_mag (s : Bool) (m n a b more : Nat) (place : Int) (hm : m ≠ 0) (hn : n ≠ 0) (hmore : more + m.log2 = 54 + n.log2) (hpl : place + 1074 + (b + more + 1 : Nat) = (a : Int) + 1074)
    (hb : 2 * (U * (m * 2 ^ a)) < BIG * (n * 2 ^ b)) :
    ∃ N, Fin (double.nearest s (2 * (m * 2 ^ more / n) + (m * 2 ^ more % n != 0).toNat) place) (sg s N) ∧
      2 ^ 53 * (N * (n * 2 ^ b)) ≤ 2 ^ 53 * (U * (m * 2 ^ a)) + 2 * (U * (m * 2 ^ a)) + 2 ^ 52 * (n * 2 ^ b) ∧
      2 ^ 53 * (U * (m * 2 ^ a)) ≤ 2 ^ 53 * (N * (n * 2 ^ b)) + 2 * (U * (m * 2 ^ a)) + 2 ^ 52 * (n * 2 ^ b) := by
  have hst := sticky (m * 2 ^ more) n (by omega)
  have hq : 2 ^ 53 ≤ m * 2 ^ more / n := by
    rw [Nat.le_div_iff_mul_le (by omega)]
    have h1 : 2 ^ m.log2 ≤ m := Nat.log2_self_le hm
    have h2 : n < 2 ^ (n.log2 + 1) := Nat.lt_log2_self
    have h3 : 2 ^ m.log2 * 2 ^ more ≤ m * 2 ^ more := Nat.mul_le_mul_right _ h1
    have h4 : 2 ^ 53 * n ≤ 2 ^ 53 * 2 ^ (n.log2 + 1) := Nat.mul_le_mul_left _ (Nat.le_of_lt h2)
    rw [← Nat.pow_add, show 53 + (n.log2 + 1) = m.log2 + more by omega, Nat.pow_add] at h4
    omega
  have hq' : 2 ^ 54 ≤ 2 * (m * 2 ^ more / n) + (m * 2 ^ more % n != 0).toNat := by omega
  generalize 2 * (m * 2 ^ more / n) + (m * 2 ^ more % n != 0).toNat = q at *
  obtain ⟨f, g, hfg⟩ : ∃ f g : Nat, place + 1074 = (g : Int) - (f : Int) := by
    rcases Int.le_total 0 (place + 1074) with h | h
    · exact ⟨0, (place + 1074).toNat, by omega⟩
    · exact ⟨(-(place + 1074)).toNat, 0, by omega⟩
  have hrel : more + 1 + (g + b) = a + 1074 + f := by omega
  have hAF : 2 * (m * 2 ^ more) * (2 ^ g * 2 ^ b) = U * (m * 2 ^ a) * 2 ^ f := by
    have e1 : 2 * (m * 2 ^ more) * (2 ^ g * 2 ^ b) = m * 2 ^ (more + 1 + (g + b)) := by rw [Nat.pow_add, Nat.pow_add 2 more 1, Nat.pow_add 2 g b, Nat.pow_one]; ac_rfl
    have e2 : U * (m * 2 ^ a) * 2 ^ f = m * 2 ^ (a + 1074 + f) := by rw [show a + 1074 + f = 1074 + (a + f) by omega, U_mul, Nat.pow_add]; generalize U = u; ac_rfl
    rw [e1, e2, hrel]
  have hF : 0 < 2 ^ f := Nat.two_pow_pos _
  -- everything times (2 ^ g * 2 ^ b)
  have w1 := Nat.mul_le_mul_right (2 ^ g * 2 ^ b) hst.1
  have w2 := Nat.mul_le_mul_right (2 ^ g * 2 ^ b) hst.2
  have w3 := Nat.mul_le_mul_right (n * (2 ^ g * 2 ^ b)) hq'
  rw [Nat.add_mul, hAF] at w1
  rw [hAF, Nat.add_mul] at w2
  rw [← Nat.mul_assoc q] at w3
  have hWe : q * n * (2 ^ g * 2 ^ b) = q * 2 ^ g * (n * 2 ^ b) := by ac_rfl
  have hlt : q * 2 ^ g < BIG * 2 ^ f := by
    rcases Nat.lt_or_ge (q * 2 ^ g) (BIG * 2 ^ f) with h | h
    · exact h
    · exfalso
      have h1 := Nat.mul_le_mul_right (n * 2 ^ b) h
      rw [← hWe] at h1
      have h2 : BIG * (n * 2 ^ b) * 2 ^ f ≤ 2 * (U * (m * 2 ^ a)) * 2 ^ f := by
        have e : BIG * 2 ^ f * (n * 2 ^ b) = BIG * (n * 2 ^ b) * 2 ^ f := Nat.mul_right_comm _ _ _
        rw [e] at h1
        generalize BIG * (n * 2 ^ b) * 2 ^ f = L at *
        rw [Nat.mul_assoc 2]
        generalize U * (m * 2 ^ a) * 2 ^ f = AF at *
        generalize q * n * (2 ^ g * 2 ^ b) = W at *
        generalize n * (2 ^ g * 2 ^ b) = X at *
        omega
      have h3 := Nat.le_of_mul_le_mul_right h2 hF
      omega
  obtain ⟨N, hfin, hn1, hn2⟩ := nearest_fin s q place f g (by omega) hfg hlt
  refine ⟨N, hfin, ?_⟩
  have k1 := Nat.mul_le_mul_right (n * 2 ^ b) hn1
  have k2 := Nat.mul_le_mul_right (n * 2 ^ b) hn2
  rw [Nat.add_mul, Nat.add_mul, Nat.mul_assoc (2 ^ 53) (q * 2 ^ g), ← hWe] at k1
  rw [Nat.add_mul, Nat.add_mul, Nat.mul_assoc (2 ^ 53) (q * 2 ^ g), ← hWe] at k2
  have eP : 2 ^ 53 * (N * 2 ^ f) * (n * 2 ^ b) = 2 ^ 53 * (N * (n * 2 ^ b) * 2 ^ f) := by rw [Nat.mul_assoc (2 ^ 53)]; congr 1; ac_rfl
  have eY : 2 ^ 52 * 2 ^ f * (n * 2 ^ b) = 2 ^ 52 * (n * 2 ^ b * 2 ^ f) := by rw [Nat.mul_assoc (2 ^ 52), Nat.mul_comm (2 ^ f)]
  rw [eP, eY] at k1 k2
  constructor
  · refine Nat.le_of_mul_le_mul_right (c := 2 ^ f) ?_ hF
    rw [Nat.add_mul, Nat.add_mul, Nat.mul_assoc (2 ^ 53), Nat.mul_assoc (2 ^ 53), Nat.mul_assoc 2 (U * (m * 2 ^ a)), Nat.mul_assoc (2 ^ 52)]
    generalize U * (m * 2 ^ a) * 2 ^ f = AF at *
    generalize q * n * (2 ^ g * 2 ^ b) = W at *
    generalize n * (2 ^ g * 2 ^ b) = X at *
    generalize N * (n * 2 ^ b) * 2 ^ f = P at *
    generalize n * 2 ^ b * 2 ^ f = FY at *
    omega
  · refine Nat.le_of_mul_le_mul_right (c := 2 ^ f) ?_ hF
    rw [Nat.add_mul, Nat.add_mul, Nat.mul_assoc (2 ^ 53), Nat.mul_assoc (2 ^ 53), Nat.mul_assoc 2 (U * (m * 2 ^ a)), Nat.mul_assoc (2 ^ 52)]
    generalize U * (m * 2 ^ a) * 2 ^ f = AF at *
    generalize q * n * (2 ^ g * 2 ^ b) = W at *
    generalize n * (2 ^ g * 2 ^ b) = X at *
    generalize N * (n * 2 ^ b) * 2 ^ f = P at *
    generalize n * 2 ^ b * 2 ^ f = FY at *
    omega
end Go.Proofs.Qxb6604386a.Fl
