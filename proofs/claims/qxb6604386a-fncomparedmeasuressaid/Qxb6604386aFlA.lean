/- Rounding to the nearest double, told in whole numbers: the unit is 2 ^ -1074. No Go text. -/
import Ieee.Arith
namespace Go.Proofs.Qxb6604386a.Fl
open Ieee

theorem lp : double.leastPlace = -1074 := by decide
theorem bi : double.binade = 2 ^ 52 := by decide
theorem sw : double.signWeight = 2 ^ 63 := by decide
theorem ir : double.infRung = 2047 * 2 ^ 52 := by decide
theorem fb : double.fractionBits = 52 := rfl

/-- A magnitude with a sign. -/
def sg (s : Bool) (n : Nat) : Int := if s then -(n : Int) else n
theorem signed_eq (s : Bool) (m up : Nat) : signed s m up = sg s (m * 2 ^ up) := by
  unfold signed sg; rw [Nat.shiftLeft_eq]
theorem sg_scale (s : Bool) (m k : Nat) : sg s (m * k) = sg s m * (k : Int) := by
  unfold sg; cases s <;> simp [Int.neg_mul]

/-- The word x is a number, V units. -/
def Fin (x : Nat) (V : Int) : Prop := ∃ s m i, double.read x = .number s m i ∧ -1074 ≤ i ∧ m < 2 ^ 53 ∧ V = sg s (m * 2 ^ (i + 1074).toNat)

theorem read_number {x : Nat} {s : Bool} {m : Nat} {i : Int} (h : double.read x = .number s m i) : -1074 ≤ i ∧ m < 2 ^ 53 := by
  unfold Format.read at h
  simp only [lp, bi, sw, ir] at h
  split at h
  · injection h with h1 h2 h3
    subst h2 h3
    exact ⟨Int.le_refl _, by omega⟩
  · split at h
    · injection h with h1 h2 h3
      subst h2 h3
      have : (x % 2 ^ 63) % 2 ^ 52 < 2 ^ 52 := Nat.mod_lt _ (by decide)
      exact ⟨by omega, by omega⟩
    · split at h <;> cases h

theorem fin_of_read {x : Nat} {s : Bool} {m : Nat} {i : Int} (h : double.read x = .number s m i) : Fin x (sg s (m * 2 ^ (i + 1074).toNat)) :=
  ⟨s, m, i, h, (read_number h).1, (read_number h).2, rfl⟩

/-- Cutting a whole number to the nearest: within half a unit. -/
theorem cut_err (s : Bool) (n drop : Nat) : 2 * (Toward.even.cut s n drop * 2 ^ drop) ≤ 2 * n + 2 ^ drop ∧ 2 * n ≤ 2 * (Toward.even.cut s n drop * 2 ^ drop) + 2 ^ drop := by
  unfold Toward.cut
  simp only [Nat.one_shiftLeft]
  by_cases h : drop ≤ n.log2 + 2
  · rw [Nat.min_eq_left h]
    have hg : 0 < 2 ^ drop := Nat.two_pow_pos _
    generalize 2 ^ drop = gap at *
    have hd := Nat.div_add_mod n gap
    have hr := Nat.mod_lt n hg
    generalize n / gap = low at *
    generalize n % gap = rest at *
    have hm : gap * low = low * gap := Nat.mul_comm _ _
    cases hb : (decide (gap < 2 * rest) || (gap == 2 * rest && low % 2 == 1)) with
    | true =>
      have : gap ≤ 2 * rest := by
        simp at hb
        rcases hb with h | h <;> omega
      simp only [Bool.toNat_true]
      rw [Nat.add_mul]
      omega
    | false =>
      have : 2 * rest ≤ gap := by
        simp at hb
        omega
      simp only [Bool.toNat_false, Nat.add_zero]
      omega
  · rw [Nat.min_eq_right (by omega)]
    have hn : n < 2 ^ (n.log2 + 1) := Nat.lt_log2_self
    have hp : 2 ^ (n.log2 + 2) = 2 * 2 ^ (n.log2 + 1) := by rw [Nat.pow_succ, Nat.mul_comm]
    have hle : 2 ^ (n.log2 + 2) ≤ 2 ^ drop := Nat.pow_le_pow_right (by decide) (by omega)
    have hlt : n < 2 ^ (n.log2 + 2) := by omega
    rw [Nat.div_eq_of_lt hlt, Nat.mod_eq_of_lt hlt]
    have hb : (decide (2 ^ (n.log2 + 2) < 2 * n) || (2 ^ (n.log2 + 2) == 2 * n && 0 % 2 == 1)) = false := by
      simp; omega
    rw [hb]
    simp only [Bool.toNat_false, Nat.add_zero, Nat.zero_mul, Nat.mul_zero]
    omega

theorem cut_zero (s : Bool) (n : Nat) : Toward.even.cut s n 0 = n := by
  have := cut_err s n 0
  simp at this
  omega

/-- Reading a written rung again: h binades up, k units of that binade. -/
theorem read_word (s : Bool) (h k : Nat) (hk : k ≤ 2 ^ 53) (hlow : h = 0 ∨ 2 ^ 52 ≤ k) (hh : h ≤ 2043) :
    Fin (double.word s (min (h * 2 ^ 52 + k) double.infRung)) (sg s (k * 2 ^ h)) := by
  have hr : h * 2 ^ 52 + k < 2047 * 2 ^ 52 := by omega
  rw [ir, Nat.min_eq_left (by omega)]
  generalize hR : h * 2 ^ 52 + k = R at *
  have hneg : (double.word s R / 2 ^ 63 % 2 == 1) = s := by
    unfold Format.word; rw [sw]
    cases s
    · simp; omega
    · simp; omega
  have hrung : double.word s R % 2 ^ 63 = R := by
    unfold Format.word; rw [sw]
    cases s
    · simp; omega
    · simp; omega
  unfold Fin Format.read
  simp only [lp, bi, sw, ir, hneg, hrung]
  by_cases h1 : R < 2 ^ 52
  · rw [if_pos h1]
    have h0 : h = 0 := by omega
    subst h0
    exact ⟨s, R, -1074, rfl, Int.le_refl _, by omega, by simp at hR; subst hR; rfl⟩
  · rw [if_neg h1, if_pos hr]
    by_cases h2 : k = 2 ^ 53
    · subst h2
      have hq : R / 2 ^ 52 = h + 2 := by omega
      have hm : R % 2 ^ 52 = 0 := by omega
      rw [hq, hm]
      refine ⟨s, _, _, rfl, by omega, by decide, ?_⟩
      rw [show (-1074 + ((h + 2 - 1 : Nat) : Int) + 1074).toNat = h + 1 by omega, Nat.add_zero, show (2 : Nat) ^ (h + 1) = 2 * 2 ^ h from by rw [Nat.pow_succ, Nat.mul_comm], ← Nat.mul_assoc, show (2 : Nat) ^ 53 = 2 ^ 52 * 2 by decide]
    · have hk2 : 2 ^ 52 ≤ k := by omega
      have hq : R / 2 ^ 52 = h + 1 := by omega
      have hm : R % 2 ^ 52 = k - 2 ^ 52 := by omega
      rw [hq, hm]
      refine ⟨s, _, _, rfl, by omega, by omega, ?_⟩
      rw [show (-1074 + ((h + 1 - 1 : Nat) : Int) + 1074).toNat = h by omega, show 2 ^ 52 + (k - 2 ^ 52) = k by omega]
end Go.Proofs.Qxb6604386a.Fl
