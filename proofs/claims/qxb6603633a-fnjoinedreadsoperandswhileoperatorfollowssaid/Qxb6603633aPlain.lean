/- Plain mathematics of the two 'Shifts' laws: lists of bytes alone, no Go text. -/
import GoSem.Op.String
namespace Go.Proofs.Qxb6603633a.Plain
open Go

/-- How far two texts agree. -/
def cpl : List UInt8 → List UInt8 → Nat
  | a :: x, b :: y => if a = b then cpl x y + 1 else 0
  | _, _ => 0

/-- 'x <= y' as the model has it. -/
def leB (x y : List UInt8) : Bool := Op.bytesLess x y || x == y

theorem leB_nil (y : List UInt8) : leB [] y = true := by cases y <;> simp [leB, Op.bytesLess]
theorem leB_cons_nil (a : UInt8) (x : List UInt8) : leB (a :: x) [] = false := by simp [leB, Op.bytesLess]
theorem leB_cons_eq (a : UInt8) (x y : List UInt8) : leB (a :: x) (a :: y) = leB x y := by
  have : ¬ a < a := UInt8.lt_irrefl a
  simp [leB, Op.bytesLess, this]
theorem leB_cons_ne (a b : UInt8) (x y : List UInt8) (h : a ≠ b) : leB (a :: x) (b :: y) = decide (a < b) := by
  have hb : (a == b) = false := beq_eq_false_iff_ne.2 h
  simp [leB, Op.bytesLess, hb]

theorem leB_refl (x : List UInt8) : leB x x = true := by simp [leB]

theorem leB_trans : ∀ (x y z : List UInt8), leB x y = true → leB y z = true → leB x z = true
  | [], _, z, _, _ => leB_nil z
  | a :: x, [], _, h, _ => by rw [leB_cons_nil] at h; cases h
  | a :: x, b :: y, [], _, h => by rw [leB_cons_nil] at h; cases h
  | a :: x, b :: y, c :: z, h1, h2 => by
    by_cases hab : a = b
    · subst hab
      rw [leB_cons_eq] at h1
      by_cases hac : a = c
      · subst hac
        rw [leB_cons_eq] at h2 ⊢
        exact leB_trans x y z h1 h2
      · rw [leB_cons_ne _ _ _ _ hac] at h2 ⊢; exact h2
    · rw [leB_cons_ne _ _ _ _ hab] at h1
      have h1' : a < b := by simpa using h1
      by_cases hbc : b = c
      · subst hbc
        rw [leB_cons_ne _ _ _ _ hab]; exact h1
      · rw [leB_cons_ne _ _ _ _ hbc] at h2
        have h2' : b < c := by simpa using h2
        have hac : a < c := UInt8.lt_trans h1' h2'
        have : a ≠ c := by rintro rfl; exact UInt8.lt_irrefl _ hac
        rw [leB_cons_ne _ _ _ _ this]; simpa using hac

theorem cpl_nil_left (y : List UInt8) : cpl [] y = 0 := by cases y <;> rfl
theorem cpl_nil_right (x : List UInt8) : cpl x [] = 0 := by cases x <;> rfl
theorem cpl_cons_eq (a : UInt8) (x y : List UInt8) : cpl (a :: x) (a :: y) = cpl x y + 1 := by simp [cpl]
theorem cpl_cons_ne (a b : UInt8) (x y : List UInt8) (h : a ≠ b) : cpl (a :: x) (b :: y) = 0 := by simp [cpl, h]

theorem cpl_le_left : ∀ (x y : List UInt8), cpl x y ≤ x.length
  | [], y => by rw [cpl_nil_left]; exact Nat.zero_le _
  | a :: x, [] => by simp [cpl]
  | a :: x, b :: y => by
    have := cpl_le_left x y
    by_cases h : a = b
    · subst h; rw [cpl_cons_eq]; simp; omega
    · rw [cpl_cons_ne _ _ _ _ h]; exact Nat.zero_le _

/-- The first n bytes agree exactly where the common prefix is that long. -/
theorem take_eq_iff : ∀ (n : Nat) (x y : List UInt8), n ≤ x.length → n ≤ y.length → ((x.take n == y.take n) = true ↔ n ≤ cpl x y)
  | 0, x, y, _, _ => by simp
  | n + 1, [], y, h, _ => by simp at h
  | n + 1, a :: x, [], _, h => by simp at h
  | n + 1, a :: x, b :: y, h1, h2 => by
    have ih := take_eq_iff n x y (by simpa using h1) (by simpa using h2)
    by_cases h : a = b
    · subst h
      rw [cpl_cons_eq]
      rw [List.take_succ_cons, List.take_succ_cons, beq_iff_eq, List.cons.injEq]
      rw [beq_iff_eq] at ih
      simp only [true_and]
      rw [ih]
      omega
    · rw [cpl_cons_ne _ _ _ _ h]
      simp [h]

/-- 'head := code[:len(first)]; first <= head && head <= last'. -/
def covB (f l m : List UInt8) : Bool := leB f (m.take f.length) && leB (m.take f.length) l

/-- Some of the first n ranges covers m. -/
def covN (F L : Nat → List UInt8) (m : List UInt8) : Nat → Bool
  | 0 => false
  | n + 1 => covN F L m n || covB (F n) (L n) m

theorem covN_false {F L : Nat → List UInt8} {m : List UInt8} : ∀ {n : Nat}, covN F L m n = false ↔ ∀ k, k < n → covB (F k) (L k) m = false
  | 0 => by simp [covN]
  | n + 1 => by
    rw [covN, Bool.or_eq_false_iff, covN_false (n := n)]
    constructor
    · rintro ⟨h1, h2⟩ k hk
      by_cases e : k = n
      · subst e; exact h2
      · exact h1 k (by omega)
    · intro h
      exact ⟨fun k hk => h k (by omega), h n (by omega)⟩

theorem covN_true {F L : Nat → List UInt8} {m : List UInt8} {n k : Nat} (hk : k < n) (h : covB (F k) (L k) m = true) : covN F L m n = true := by
  cases hc : covN F L m n with
  | true => rfl
  | false => rw [covN_false.1 hc k hk] at h; cases h

theorem covN_congr {F L F' L' : Nat → List UInt8} {m : List UInt8} : ∀ {n : Nat}, (∀ k, k < n → F k = F' k ∧ L k = L' k) → covN F L m n = covN F' L' m n
  | 0, _ => rfl
  | n + 1, h => by rw [covN, covN, covN_congr (fun k hk => h k (by omega)), (h n (by omega)).1, (h n (by omega)).2]

/-- What ZZShifts answers. -/
def shB (lv : Nat) (F L : Nat → List UInt8) (n : Nat) (g m : List UInt8) : Bool := !(g.take lv == m.take lv) && !covN F L m n

theorem diff_iff (lv : Nat) (g m : List UInt8) (h1 : lv ≤ g.length) (h2 : lv ≤ m.length) : (!(g.take lv == m.take lv)) = decide (cpl g m < lv) := by
  have := take_eq_iff lv g m h1 h2
  cases h : (g.take lv == m.take lv)
  · rw [h] at this
    simp at this
    simp [this]
  · rw [h] at this
    simp at this
    simp; omega

/-- A reversed range covers nothing. -/
theorem covB_reversed (f l m : List UInt8) (h : leB f l = false) : covB f l m = false := by
  cases hc : covB f l m with
  | false => rfl
  | true =>
    simp only [covB, Bool.and_eq_true] at hc
    rw [leB_trans _ _ _ hc.1 hc.2] at h; cases h

/-- The material's own code covers it. -/
theorem covB_own (m : List UInt8) (lv : Nat) (h : lv ≤ m.length) : covB (m.take lv) (m.take lv) m = true := by
  have : (m.take lv).length = lv := by simp; omega
  simp [covB, this, leB_refl]

/-- 'each' behind n rounds. -/
def eachB (bare : Bool) (F L : Nat → List UInt8) (m : List UInt8) : Nat → Bool
  | 0 => bare
  | n + 1 => if bare && !covB (F n) (L n) m then eachB bare F L m n else false

theorem eachB_eq (bare : Bool) (F L : Nat → List UInt8) (m : List UInt8) : ∀ n, eachB bare F L m n = (bare && !covN F L m n)
  | 0 => by simp [eachB, covN]
  | n + 1 => by
    rw [eachB, eachB_eq bare F L m n, covN]
    cases bare <;> cases covN F L m n <;> cases covB (F n) (L n) m <;> rfl

end Go.Proofs.Qxb6603633a.Plain
