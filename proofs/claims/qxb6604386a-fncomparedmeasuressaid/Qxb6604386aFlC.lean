/- The operations, in whole units. -/
import Derived.Test.Qxb6604386aFlB
namespace Go.Proofs.Qxb6604386a.Fl
open Ieee

theorem sg_neg (s : Bool) (n : Nat) : sg (!s) n = - sg s n := by cases s <;> simp [sg]
theorem sg_natAbs (s : Bool) (n : Nat) : (sg s n).natAbs = n := by cases s <;> simp [sg]
theorem sg_xor (s t : Bool) (m n : Nat) : sg (s ^^ t) (m * n) = sg s m * sg t n := by
  cases s <;> cases t <;> simp [sg, Int.neg_mul, Int.mul_neg]
theorem sg_of (z : Int) : z = sg (decide (z < 0)) z.natAbs := by
  unfold sg
  by_cases h : z < 0
  · simp [h]; omega
  · simp [h]; omega
theorem sg_zero (s : Bool) : sg s 0 = 0 := by cases s <;> rfl

/-- 'V * F' is 'E' up to one part in 2 ^ 53 and half a unit. -/
def NearI (V E : Int) (F : Nat) : Prop := 2 ^ 53 * (V * F) ≤ 2 ^ 53 * E + E.natAbs + 2 ^ 52 * F ∧ 2 ^ 53 * E ≤ 2 ^ 53 * (V * F) + E.natAbs + 2 ^ 52 * F

theorem near_sg {s : Bool} {N A F : Nat} (h : Near N A F) : NearI (sg s N) (sg s A) F := by
  obtain ⟨h1, h2⟩ := h
  unfold NearI
  rw [sg_natAbs, ← sg_scale]
  generalize N * F = X at *
  cases s <;> simp only [sg, if_true, Bool.false_eq_true, if_false] <;> omega

theorem fin_zero (s : Bool) : Fin (double.word s 0) 0 := by
  have := read_word s 0 0 (by decide) (.inl rfl) (by decide)
  simpa [sg_zero] using this

theorem near_zero (F : Nat) : NearI 0 0 F := by unfold NearI; simp; omega

/-- Units to one. -/
def U : Nat := 2 ^ 1074
theorem U_split {f c : Nat} (h : f + c = 1074) : U = 2 ^ f * 2 ^ c := by unfold U; rw [← Nat.pow_add, h]

theorem near_scale {V : Int} {q : Bool} {M F : Nat} (h : NearI V (sg q M) F) (C : Nat) : NearI V (sg q (M * C)) (F * C) := by
  obtain ⟨h1, h2⟩ := h
  unfold NearI
  rw [sg_natAbs] at *
  rw [sg_scale]
  have k1 := Int.mul_le_mul_of_nonneg_right h1 (Int.natCast_nonneg C)
  have k2 := Int.mul_le_mul_of_nonneg_right h2 (Int.natCast_nonneg C)
  rw [Int.natCast_mul, Int.natCast_mul]
  generalize (C : Int) = C' at *
  generalize (F : Int) = F' at *
  generalize (M : Int) = M' at *
  generalize sg q M = E at *
  simp only [Int.add_mul, Int.mul_assoc] at k1 k2 ⊢
  exact ⟨k1, k2⟩

/-- Writing a number, zero or not. -/
theorem write_fin (s : Bool) (mag : Nat) (place : Int) (f g : Nat) (hfg : place + 1074 = (g : Int) - (f : Int)) (hlt : mag * 2 ^ g < BIG * 2 ^ f) :
    ∃ V, Fin (double.write (.number s mag place)) V ∧ NearI V (sg s (mag * 2 ^ g)) (2 ^ f) := by
  by_cases h0 : mag = 0
  · subst h0
    refine ⟨0, ?_, ?_⟩
    · show Fin (double.nearest s 0 place) 0
      unfold Format.nearest
      rw [if_pos rfl]; exact fin_zero s
    · rw [Nat.zero_mul, sg_zero]; exact near_zero _
  · obtain ⟨N, h1, h2⟩ := nearest_fin s mag place f g h0 hfg hlt
    exact ⟨_, h1, near_sg h2⟩

theorem sum_fin (s t : Bool) (m n : Nat) (i j : Int) (hi : -1074 ≤ i) (hj : -1074 ≤ j)
    (hb : (sg s (m * 2 ^ (i + 1074).toNat) + sg t (n * 2 ^ (j + 1074).toNat)).natAbs < BIG) :
    ∃ r V, ((Datum.number s m i).sum (.number t n j)).map double.write = some r ∧ Fin r V ∧ NearI V (sg s (m * 2 ^ (i + 1074).toNat) + sg t (n * 2 ^ (j + 1074).toNat)) 1 := by
  unfold Datum.sum
  simp only [Option.map_some, signed_eq]
  obtain ⟨base, hbase⟩ : ∃ b, b = min i j := ⟨_, rfl⟩
  rw [← hbase]
  obtain ⟨g, hg⟩ : ∃ g : Nat, base + 1074 = g := ⟨(base + 1074).toNat, by omega⟩
  obtain ⟨a, ha⟩ : ∃ a, (i - base).toNat = a := ⟨_, rfl⟩
  obtain ⟨b, hb'⟩ : ∃ b, (j - base).toNat = b := ⟨_, rfl⟩
  rw [ha, hb']
  have e1 : (i + 1074).toNat = a + g := by omega
  have e2 : (j + 1074).toNat = b + g := by omega
  have hE : sg s (m * 2 ^ (i + 1074).toNat) + sg t (n * 2 ^ (j + 1074).toNat) = (sg s (m * 2 ^ a) + sg t (n * 2 ^ b)) * ((2 ^ g : Nat) : Int) := by
    rw [e1, e2, Nat.pow_add, Nat.pow_add, ← Nat.mul_assoc, ← Nat.mul_assoc, sg_scale s (m * 2 ^ a), sg_scale t (n * 2 ^ b), Int.add_mul]
  rw [hE] at hb ⊢
  generalize sg s (m * 2 ^ a) + sg t (n * 2 ^ b) = total at *
  obtain ⟨q, hq⟩ : ∃ q, (if total = 0 then s && t else decide (total < 0)) = q := ⟨_, rfl⟩
  rw [hq]
  have hlt : total.natAbs * 2 ^ g < BIG * 2 ^ 0 := by
    rw [Int.natAbs_mul, Int.natAbs_natCast] at hb
    rw [Nat.pow_zero, Nat.mul_one]; exact hb
  obtain ⟨V, h1, h2⟩ := write_fin q total.natAbs base 0 g (by omega) hlt
  refine ⟨_, V, rfl, h1, ?_⟩
  have : sg q (total.natAbs * 2 ^ g) = total * ((2 ^ g : Nat) : Int) := by
    rw [sg_scale]
    by_cases h0 : total = 0
    · subst h0; simp [sg_zero]
    · rw [if_neg h0] at hq
      rw [← hq, ← sg_of]
  rw [this] at h2
  exact h2

theorem add_fin {x y : Nat} {A B : Int} (hx : Fin x A) (hy : Fin y B) (hb : (A + B).natAbs < BIG) : ∃ r V, double.add x y = some r ∧ Fin r V ∧ NearI V (A + B) 1 := by
  obtain ⟨s, m, i, h1, h2, _, rfl⟩ := hx
  obtain ⟨t, n, j, k1, k2, _, rfl⟩ := hy
  unfold Format.add
  rw [h1, k1]
  exact sum_fin s t m n i j h2 k2 hb

theorem sub_fin {x y : Nat} {A B : Int} (hx : Fin x A) (hy : Fin y B) (hb : (A - B).natAbs < BIG) : ∃ r V, double.sub x y = some r ∧ Fin r V ∧ NearI V (A - B) 1 := by
  obtain ⟨s, m, i, h1, h2, _, rfl⟩ := hx
  obtain ⟨t, n, j, k1, k2, _, rfl⟩ := hy
  unfold Format.sub
  rw [h1, k1]
  have e : sg s (m * 2 ^ (i + 1074).toNat) - sg t (n * 2 ^ (j + 1074).toNat) = sg s (m * 2 ^ (i + 1074).toNat) + sg (!t) (n * 2 ^ (j + 1074).toNat) := by rw [sg_neg]; omega
  rw [e] at hb ⊢
  exact sum_fin s (!t) m n i j h2 k2 hb

/-- The product: its exact value has the unit 2 ^ -2148. -/
theorem mul_fin {x y : Nat} {A B : Int} (hx : Fin x A) (hy : Fin y B) (hb : (A * B).natAbs < BIG * U) : ∃ r V, double.mul x y = some r ∧ Fin r V ∧ NearI V (A * B) U := by
  obtain ⟨s, m, i, h1, h2, _, rfl⟩ := hx
  obtain ⟨t, n, j, k1, k2, _, rfl⟩ := hy
  unfold Format.mul
  rw [h1, k1]
  unfold Datum.product
  simp only [Option.map_some]
  obtain ⟨a, ha⟩ : ∃ a : Nat, i + 1074 = a := ⟨(i + 1074).toNat, by omega⟩
  obtain ⟨b, hb'⟩ : ∃ b : Nat, j + 1074 = b := ⟨(j + 1074).toNat, by omega⟩
  rw [ha, hb', Int.toNat_natCast, Int.toNat_natCast, ← sg_xor] at hb ⊢
  have em : m * 2 ^ a * (n * 2 ^ b) = m * n * 2 ^ (a + b) := by rw [Nat.pow_add]; ac_rfl
  rw [em] at hb ⊢
  rw [sg_natAbs] at hb
  obtain ⟨f, g, c, hfg, hc, hg⟩ : ∃ f g c : Nat, i + j + 1074 = (g : Int) - (f : Int) ∧ f + c = 1074 ∧ g + c = a + b := by
    by_cases hh : 1074 ≤ a + b
    · exact ⟨0, a + b - 1074, 1074, by omega, by omega, by omega⟩
    · exact ⟨1074 - (a + b), 0, a + b, by omega, by omega, by omega⟩
  have hU := U_split hc
  have hA : m * n * 2 ^ (a + b) = m * n * 2 ^ g * 2 ^ c := by rw [← hg, Nat.pow_add, Nat.mul_assoc (m * n)]
  rw [hU, hA, ← Nat.mul_assoc] at hb
  obtain ⟨V, w1, w2⟩ := write_fin (s ^^ t) (m * n) (i + j) f g hfg (Nat.lt_of_mul_lt_mul_right hb)
  refine ⟨_, V, rfl, w1, ?_⟩
  rw [hU, hA]
  exact near_scale w2 (2 ^ c)
end Go.Proofs.Qxb6604386a.Fl
