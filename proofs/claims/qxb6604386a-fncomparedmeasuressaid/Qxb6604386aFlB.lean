/- The nearest word: within one part in 2 ^ 53, or half a unit. -/
import Derived.Test.Qxb6604386aFlA
namespace Go.Proofs.Qxb6604386a.Fl
open Ieee

/-- 'N' is 'A / F' up to one part in 2 ^ 53 and half a unit. -/
def Near (N A F : Nat) : Prop := 2 ^ 53 * (N * F) ≤ 2 ^ 53 * A + A + 2 ^ 52 * F ∧ 2 ^ 53 * A ≤ 2 ^ 53 * (N * F) + A + 2 ^ 52 * F

/-- No number of this size or less overflows. -/
def BIG : Nat := 2 ^ 2090

theorem nearest_fin (s : Bool) (mag : Nat) (place : Int) (f g : Nat) (hpos : mag ≠ 0) (hfg : place + 1074 = (g : Int) - (f : Int)) (hlt : mag * 2 ^ g < BIG * 2 ^ f) :
    ∃ N : Nat, Fin (double.nearest s mag place) (sg s N) ∧ Near N (mag * 2 ^ g) (2 ^ f) := by
  have hl1 : 2 ^ mag.log2 ≤ mag := Nat.log2_self_le hpos
  have hl2 : mag < 2 ^ (mag.log2 + 1) := Nat.lt_log2_self
  unfold Format.nearest
  rw [if_neg hpos]
  simp only [lp, bi, fb, Nat.shiftLeft_eq]
  generalize hL : max (place + (mag.log2 : Int) - ((52 : Nat) : Int)) (-1074) = last
  have hlast : -1074 ≤ last := by omega
  have hlast2 : place + (mag.log2 : Int) - 52 ≤ last := by omega
  have hlast3 : last = -1074 ∨ last = place + (mag.log2 : Int) - 52 := by omega
  obtain ⟨h, hh⟩ : ∃ h : Nat, last + 1074 = h := ⟨(last + 1074).toNat, by omega⟩
  obtain ⟨up, hup⟩ : ∃ up : Nat, (place - last).toNat = up := ⟨_, rfl⟩
  obtain ⟨drop, hdrop⟩ : ∃ d : Nat, (last - place).toNat = d := ⟨_, rfl⟩
  rw [hup, hdrop, show (last - -1074).toNat = h by omega]
  have hE : up + h + f = g + drop := by omega
  have hce := cut_err s (mag * 2 ^ up) drop
  generalize Toward.even.cut s (mag * 2 ^ up) drop = k at *
  -- the exact number, at the place that is kept
  have hpw : (mag * 2 ^ up) * (2 ^ h * 2 ^ f) = (mag * 2 ^ g) * 2 ^ drop := by
    rw [Nat.mul_assoc, ← Nat.pow_add, ← Nat.pow_add, show up + (h + f) = g + drop by omega, Nat.pow_add, ← Nat.mul_assoc]
  have hdp : 0 < 2 ^ drop := Nat.two_pow_pos _
  -- k fits
  have hk53 : k ≤ 2 ^ 53 := by
    have hn : mag * 2 ^ up < 2 ^ 53 * 2 ^ drop := by
      have h1 : mag * 2 ^ up < 2 ^ (mag.log2 + 1) * 2 ^ up := (Nat.mul_lt_mul_right (Nat.two_pow_pos _)).2 hl2
      have h2 : 2 ^ (mag.log2 + 1) * 2 ^ up ≤ 2 ^ 53 * 2 ^ drop := by
        rw [← Nat.pow_add, ← Nat.pow_add]; exact Nat.pow_le_pow_right (by decide) (by omega)
      omega
    have h3 : 2 * (k * 2 ^ drop) < (2 * 2 ^ 53 + 1) * 2 ^ drop := by rw [Nat.add_mul, Nat.mul_assoc, Nat.one_mul]; omega
    rw [← Nat.mul_assoc] at h3
    have := Nat.lt_of_mul_lt_mul_right h3
    omega
  have hlow : h ≠ 0 → 2 ^ 52 * 2 ^ drop ≤ mag * 2 ^ up := by
    intro h0
    have h1 : 2 ^ mag.log2 * 2 ^ up ≤ mag * 2 ^ up := Nat.mul_le_mul_right _ hl1
    have h2 : 2 ^ 52 * 2 ^ drop ≤ 2 ^ mag.log2 * 2 ^ up := by
      rw [← Nat.pow_add, ← Nat.pow_add]; exact Nat.pow_le_pow_right (by decide) (by omega)
    omega
  have hk52 : h = 0 ∨ 2 ^ 52 ≤ k := by
    by_cases h0 : h = 0
    · exact .inl h0
    · right
      have h1 := hlow h0
      have h2 : 2 * 2 ^ 52 * 2 ^ drop ≤ (2 * k + 1) * 2 ^ drop := by rw [Nat.add_mul, Nat.mul_assoc, Nat.mul_assoc, Nat.one_mul]; omega
      have := Nat.le_of_mul_le_mul_right h2 hdp
      omega
  have hbig : h ≠ 0 → 2 ^ 52 * (2 ^ h * 2 ^ f) ≤ mag * 2 ^ g := by
    intro h0
    have h1 := Nat.mul_le_mul_right (2 ^ h * 2 ^ f) (hlow h0)
    rw [hpw] at h1
    have h2 : (2 ^ 52 * (2 ^ h * 2 ^ f)) * 2 ^ drop ≤ (mag * 2 ^ g) * 2 ^ drop := by
      rw [Nat.mul_right_comm]; exact h1
    exact Nat.le_of_mul_le_mul_right h2 hdp
  have hh43 : h ≤ 2043 := by
    by_cases h0 : h ≤ 2043
    · exact h0
    · exfalso
      have h1 := hbig (by omega)
      have e : 2 ^ 52 * (2 ^ h * 2 ^ f) = 2 ^ (52 + h) * 2 ^ f := by rw [Nat.pow_add, Nat.mul_assoc]
      rw [e] at h1
      have h4 : 2 ^ (52 + h) < BIG := Nat.lt_of_mul_lt_mul_right (Nat.lt_of_le_of_lt h1 hlt)
      unfold BIG at h4
      have h5 : 52 + h < 2090 := (Nat.pow_lt_pow_iff_right (a := 2) (by decide)).1 h4
      omega
  refine ⟨k * 2 ^ h, read_word s h k hk53 hk52 hh43, ?_⟩
  -- the error
  have c1 : 2 * ((k * 2 ^ h) * 2 ^ f) ≤ 2 * (mag * 2 ^ g) + 2 ^ h * 2 ^ f := by
    have h1 := Nat.mul_le_mul_right (2 ^ h * 2 ^ f) hce.1
    rw [Nat.add_mul, Nat.mul_assoc 2 (mag * 2 ^ up), hpw] at h1
    have h2 : (2 * ((k * 2 ^ h) * 2 ^ f)) * 2 ^ drop ≤ (2 * (mag * 2 ^ g) + 2 ^ h * 2 ^ f) * 2 ^ drop := by
      rw [Nat.add_mul]
      calc (2 * ((k * 2 ^ h) * 2 ^ f)) * 2 ^ drop = 2 * (k * 2 ^ drop) * (2 ^ h * 2 ^ f) := by ac_rfl
        _ ≤ _ := h1
        _ = 2 * (mag * 2 ^ g) * 2 ^ drop + 2 ^ h * 2 ^ f * 2 ^ drop := by rw [Nat.mul_comm (2 ^ drop), Nat.mul_assoc 2]
    exact Nat.le_of_mul_le_mul_right h2 hdp
  have c2 : 2 * (mag * 2 ^ g) ≤ 2 * ((k * 2 ^ h) * 2 ^ f) + 2 ^ h * 2 ^ f := by
    have h1 := Nat.mul_le_mul_right (2 ^ h * 2 ^ f) hce.2
    rw [Nat.add_mul, Nat.mul_assoc 2 (mag * 2 ^ up), hpw] at h1
    have h2 : (2 * (mag * 2 ^ g)) * 2 ^ drop ≤ (2 * ((k * 2 ^ h) * 2 ^ f) + 2 ^ h * 2 ^ f) * 2 ^ drop := by
      rw [Nat.add_mul]
      calc (2 * (mag * 2 ^ g)) * 2 ^ drop = 2 * (mag * 2 ^ g * 2 ^ drop) := by rw [Nat.mul_assoc 2]
        _ ≤ _ := h1
        _ = 2 * ((k * 2 ^ h) * 2 ^ f) * 2 ^ drop + 2 ^ h * 2 ^ f * 2 ^ drop := by
          rw [Nat.mul_comm (2 ^ drop)]
          congr 1
          ac_rfl
    exact Nat.le_of_mul_le_mul_right h2 hdp
  unfold Near
  have hq : 2 ^ 52 * (2 ^ h * 2 ^ f) ≤ mag * 2 ^ g + 2 ^ 52 * 2 ^ f := by
    by_cases h0 : h = 0
    · subst h0; simp only [Nat.pow_zero, Nat.one_mul]; omega
    · have := hbig h0; omega
  generalize (k * 2 ^ h) * 2 ^ f = X at *
  generalize 2 ^ h * 2 ^ f = Y at *
  generalize mag * 2 ^ g = A at *
  generalize 2 ^ f = F at *
  constructor <;> omega
end Go.Proofs.Qxb6604386a.Fl
