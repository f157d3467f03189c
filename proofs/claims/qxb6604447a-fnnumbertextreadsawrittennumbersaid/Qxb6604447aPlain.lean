/- The number's text as lists: what 'numberText' reads, and the automaton. No Go in sight. -/
namespace Go.Proofs.Qxb6604447a
set_option linter.unusedVariables false
set_option linter.unusedSimpArgs false

def isDig (c : Int) : Bool := decide (48 ≤ c) && decide (c ≤ 57)
/-- What lies from p on. -/
def tl (S : Nat → Int) (n p : Nat) : List Int := (List.range' p (n - p)).map S
theorem tl_nil {S : Nat → Int} {n p : Nat} (h : n ≤ p) : tl S n p = [] := by
  unfold tl; rw [show n - p = 0 by omega]; rfl
theorem tl_cons {S : Nat → Int} {n p : Nat} (h : p < n) : tl S n p = S p :: tl S n (p + 1) := by
  unfold tl; rw [show n - p = (n - (p + 1)) + 1 by omega, List.range'_succ]; rfl
theorem tl_length (S : Nat → Int) (n p : Nat) : (tl S n p).length = n - p := by
  unfold tl; simp

/-- Is c at the head? -/
def nxt (c : Int) : List Int → Bool
  | [] => false
  | x :: _ => x == c
/-- c off the head, where it is there. -/
def drp (c : Int) : List Int → List Int
  | [] => []
  | x :: t => if x = c then t else x :: t
def hasD : List Int → Bool
  | [] => false
  | x :: _ => isDig x
def digR : List Int → List Int
  | [] => []
  | x :: t => if isDig x then digR t else x :: t

def expD (l : List Int) : Bool × List Int := if nxt 43 l then (hasD (drp 43 l), digR (drp 43 l)) else (hasD (drp 45 l), digR (drp 45 l))
def expP (l : List Int) : Bool × List Int := if nxt 101 l then expD (drp 101 l) else if nxt 69 l then expD (drp 69 l) else (true, l)
def fracP (l : List Int) : Bool × List Int := if nxt 46 l then (if hasD (drp 46 l) then expP (digR (drp 46 l)) else (false, drp 46 l)) else expP l
def wholeP (l : List Int) : Bool × List Int := if nxt 48 l then fracP (drp 48 l) else if hasD l then fracP (digR l) else (false, l)
def numP (l : List Int) : Bool × List Int := wholeP (drp 45 l)

/-- The automaton's move. -/
def step (st c : Int) : Int :=
  if st = 0 then (if c = 45 then 1 else if c = 48 then 2 else if isDig c then 3 else -1)
  else if st = 1 then (if c = 48 then 2 else if isDig c then 3 else -1)
  else if st = 2 then (if c = 46 then 4 else if c = 101 then 6 else if c = 69 then 6 else -1)
  else if st = 3 then (if isDig c then 3 else if c = 46 then 4 else if c = 101 then 6 else if c = 69 then 6 else -1)
  else if st = 4 then (if isDig c then 5 else -1)
  else if st = 5 then (if isDig c then 5 else if c = 101 then 6 else if c = 69 then 6 else -1)
  else if st = 6 then (if c = 43 then 7 else if c = 45 then 7 else if isDig c then 8 else -1)
  else if st = 7 then (if isDig c then 8 else -1)
  else if st = 8 then (if isDig c then 8 else -1)
  else -1
def acc (st : Int) : Bool := st == 2 || st == 3 || st == 5 || st == 8
def auto : Int → List Int → Int × List Int
  | st, [] => (st, [])
  | st, c :: t => if step st c < 0 then (st, c :: t) else auto (step st c) t
def ans (x : Int × List Int) : Bool × List Int := (acc x.1, x.2)

theorem auto8 : ∀ l, auto 8 l = (8, digR l)
  | [] => rfl
  | c :: t => by
    cases h : isDig c with
    | true => simp [auto, step, digR, h, auto8 t]
    | false => simp [auto, step, digR, h]
theorem auto7 (l : List Int) : ans (auto 7 l) = (hasD l, digR l) := by
  cases l with
  | nil => rfl
  | cons c t =>
    cases h : isDig c with
    | true => simp [auto, step, digR, hasD, h, auto8 t, ans, acc]
    | false => simp [auto, step, digR, hasD, h, ans, acc]
theorem auto6 (l : List Int) : ans (auto 6 l) = expD l := by
  cases l with
  | nil => rfl
  | cons c t =>
    by_cases h1 : c = 43
    · subst h1; simp [auto, step, expD, nxt, drp, auto7]
    · by_cases h2 : c = 45
      · subst h2; simp [auto, step, expD, nxt, drp, auto7]
      · cases h : isDig c with
        | true => simp [auto, step, expD, nxt, drp, hasD, digR, h1, h2, h, auto8 t, ans, acc]
        | false => simp [auto, step, expD, nxt, drp, hasD, digR, h1, h2, h, ans, acc]
theorem dig_ne {c : Int} (h : isDig c = true) : c ≠ 101 ∧ c ≠ 69 ∧ c ≠ 46 ∧ c ≠ 45 ∧ c ≠ 43 := by
  simp [isDig] at h; omega
theorem auto5 : ∀ l, ans (auto 5 l) = expP (digR l)
  | [] => rfl
  | c :: t => by
    cases h : isDig c with
    | true => simp [auto, step, digR, h, auto5 t]
    | false =>
      by_cases h1 : c = 101
      · subst h1; simp [auto, step, expP, digR, h, nxt, drp, auto6]
      · by_cases h2 : c = 69
        · subst h2; simp [auto, step, expP, digR, h, nxt, drp, auto6]
        · simp [auto, step, expP, digR, h, h1, h2, nxt, ans, acc]
theorem auto4 (l : List Int) : ans (auto 4 l) = if hasD l then expP (digR l) else (false, l) := by
  cases l with
  | nil => rfl
  | cons c t =>
    cases h : isDig c with
    | true => simp [auto, step, hasD, digR, h, auto5 t]
    | false => simp [auto, step, hasD, h, ans, acc]
theorem auto3 : ∀ l, ans (auto 3 l) = fracP (digR l)
  | [] => rfl
  | c :: t => by
    cases h : isDig c with
    | true => simp [auto, step, digR, h, auto3 t]
    | false =>
      by_cases h0 : c = 46
      · subst h0; simp [auto, step, fracP, digR, h, nxt, drp, auto4]
      · by_cases h1 : c = 101
        · subst h1; simp [auto, step, fracP, expP, digR, h, nxt, drp, auto6]
        · by_cases h2 : c = 69
          · subst h2; simp [auto, step, fracP, expP, digR, h, nxt, drp, auto6]
          · simp [auto, step, fracP, expP, digR, h, h0, h1, h2, nxt, ans, acc]
theorem auto2 (l : List Int) : ans (auto 2 l) = fracP l := by
  cases l with
  | nil => rfl
  | cons c t =>
    by_cases h0 : c = 46
    · subst h0; simp [auto, step, fracP, nxt, drp, auto4]
    · by_cases h1 : c = 101
      · subst h1; simp [auto, step, fracP, expP, nxt, drp, auto6]
      · by_cases h2 : c = 69
        · subst h2; simp [auto, step, fracP, expP, nxt, drp, auto6]
        · simp [auto, step, fracP, expP, h0, h1, h2, nxt, ans, acc]
theorem auto1 (l : List Int) : ans (auto 1 l) = wholeP l := by
  cases l with
  | nil => rfl
  | cons c t =>
    by_cases h0 : c = 48
    · subst h0; simp [auto, step, wholeP, nxt, drp, auto2]
    · cases h : isDig c with
      | true => simp [auto, step, wholeP, nxt, hasD, digR, h, h0, auto3]
      | false => simp [auto, step, wholeP, nxt, hasD, h, h0, ans, acc]
theorem auto0 (l : List Int) : ans (auto 0 l) = numP l := by
  cases l with
  | nil => rfl
  | cons c t =>
    by_cases h1 : c = 45
    · subst h1; simp [auto, step, numP, drp, auto1]
    · by_cases h0 : c = 48
      · subst h0; simp [auto, step, numP, wholeP, nxt, drp, auto2]
      · cases h : isDig c with
        | true => simp [auto, step, numP, wholeP, nxt, drp, hasD, digR, h, h0, h1, auto3]
        | false => simp [auto, step, numP, wholeP, nxt, drp, hasD, h, h0, h1, ans, acc]

/-! ### A written number -/
def dgs : List Int → List Int
  | [] => [48]
  | ds => ds.map fun d => 48 + d % 10
def whl : List Int → List Int
  | [] => [48]
  | [d] => [48 + d % 10]
  | d :: ds => (49 + d % 9) :: ds.map fun d => 48 + d % 10
theorem digR_app : ∀ (l t : List Int), (∀ x ∈ l, isDig x = true) → hasD t = false → digR (l ++ t) = t
  | [], [], _, _ => rfl
  | [], c :: t, _, h => by simp [digR]; simp [hasD] at h; simp [h]
  | x :: l, t, hl, h => by
    simp [digR, hl x (by simp)]
    exact digR_app l t (fun y hy => hl y (by simp [hy])) h
theorem dig10 (d : Int) : isDig (48 + d % 10) = true := by simp [isDig]; omega
theorem dgs_dig (ds : List Int) : ∀ x ∈ dgs ds, isDig x = true := by
  intro x hx
  cases ds with
  | nil => simp [dgs] at hx; subst hx; rfl
  | cons d ds =>
    simp only [dgs, List.mem_map] at hx
    obtain ⟨a, _, rfl⟩ := hx
    exact dig10 a
theorem hasD_dgs (ds t : List Int) : hasD (dgs ds ++ t) = true := by
  cases ds with
  | nil => rfl
  | cons d ds => exact dig10 d
theorem nxt_dgs (c : Int) (hc : isDig c = false) (ds t : List Int) : nxt c (dgs ds ++ t) = false ∧ drp c (dgs ds ++ t) = dgs ds ++ t := by
  have : ∃ x y, dgs ds ++ t = x :: y ∧ isDig x = true := by
    cases ds with
    | nil => exact ⟨48, t, rfl, rfl⟩
    | cons d ds => exact ⟨_, _, rfl, dig10 d⟩
  obtain ⟨x, y, e, hx⟩ := this
  rw [e]
  have hne : x ≠ c := fun h => by rw [h, hc] at hx; cases hx
  exact ⟨by simp [nxt, hne], by simp [drp, hne]⟩

/-- No byte at the head that goes on with a number. -/
def stops : List Int → Bool
  | [] => true
  | c :: _ => !(isDig c || c == 46 || c == 101 || c == 69)
theorem stops_parts {t : List Int} (h : stops t = true) : hasD t = false ∧ nxt 46 t = false ∧ nxt 101 t = false ∧ nxt 69 t = false := by
  cases t with
  | nil => exact ⟨rfl, rfl, rfl, rfl⟩
  | cons c t => simpa [stops, hasD, nxt, and_assoc] using h

def expT (m sg : Int) (ex : List Int) : List Int :=
  if m = 0 then [] else (if m = 1 then 101 else 69) :: ((if sg = 1 then [43] else if sg = 2 then [45] else []) ++ dgs ex)
def fracT (hf : Bool) (fr : List Int) : List Int := if hf then 46 :: dgs fr else []
def negT (ng : Bool) : List Int := if ng then [45] else []

theorem expD_dgs (sg : Int) (ex t : List Int) (h : hasD t = false) : expD ((if sg = 1 then [43] else if sg = 2 then [45] else []) ++ dgs ex ++ t) = (true, t) := by
  have hd := digR_app (dgs ex) t (dgs_dig ex) h
  have hh := hasD_dgs ex t
  have n1 := nxt_dgs 43 rfl ex t
  have n2 := nxt_dgs 45 rfl ex t
  by_cases h1 : sg = 1
  · simp [h1, expD, nxt, drp, hd, hh]
  · by_cases h2 : sg = 2
    · simp [h2, expD, nxt, drp, hd, hh]
    · simp [h1, h2, expD, n1, n2, hd, hh]
theorem expP_T (m sg : Int) (ex t : List Int) (h : stops t = true) : expP (expT m sg ex ++ t) = (true, t) := by
  obtain ⟨h1, h2, h3, h4⟩ := stops_parts h
  unfold expT
  by_cases m0 : m = 0
  · simp [m0, expP, h3, h4]
  · have := expD_dgs sg ex t h1
    by_cases m1 : m = 1
    · simp only [m0, m1, if_false, if_true]
      simpa [expP, nxt, drp] using this
    · simp only [m0, m1, if_false]
      simpa [expP, nxt, drp] using this
theorem expT_head (m sg : Int) (ex t : List Int) (h : stops t = true) : hasD (expT m sg ex ++ t) = false ∧ nxt 46 (expT m sg ex ++ t) = false := by
  obtain ⟨h1, h2, h3, h4⟩ := stops_parts h
  unfold expT
  by_cases m0 : m = 0
  · simp [m0, h1, h2]
  · by_cases m1 : m = 1 <;> simp [m0, m1, hasD, nxt, isDig]
theorem fracP_T (hf : Bool) (fr : List Int) (m sg : Int) (ex t : List Int) (h : stops t = true) : fracP (fracT hf fr ++ (expT m sg ex ++ t)) = (true, t) := by
  obtain ⟨e1, e2⟩ := expT_head m sg ex t h
  have e3 := expP_T m sg ex t h
  cases hf with
  | false => simp [fracT, fracP, e2, e3]
  | true =>
    have hd := digR_app (dgs fr) _ (dgs_dig fr) e1
    have hh := hasD_dgs fr (expT m sg ex ++ t)
    simp [fracT, fracP, nxt, drp, hd, hh, e3]
theorem fracT_head (hf : Bool) (fr : List Int) (m sg : Int) (ex t : List Int) (h : stops t = true) : hasD (fracT hf fr ++ (expT m sg ex ++ t)) = false := by
  cases hf with
  | false => exact (expT_head m sg ex t h).1
  | true => rfl
theorem wholeP_T (ws : List Int) (u : List Int) (hu : hasD u = false) : wholeP (whl ws ++ u) = fracP u := by
  match ws with
  | [] => simp [whl, wholeP, nxt, drp]
  | [d] =>
    by_cases h0 : 48 + d % 10 = 48
    · simp [whl, wholeP, nxt, drp, h0]
    · have hd := digR_app [48 + d % 10] u (by intro x hx; simp at hx; subst hx; exact dig10 d) hu
      simp at hd
      have h10 := dig10 d
      have h0' : ¬ d % 10 = 0 := by omega
      simp [whl, wholeP, nxt, hasD, h0, h10, hd]
  | d :: d2 :: ds =>
    have hd := digR_app (whl (d :: d2 :: ds)) u (by
      intro x hx
      simp only [whl, List.mem_cons, List.mem_map] at hx
      rcases hx with rfl | ⟨a, _, rfl⟩
      · simp [isDig]; omega
      · exact dig10 a) hu
    have hx : isDig (49 + d % 9) = true := by simp [isDig]; omega
    have hne : ¬ (49 + d % 9 = 48) := by omega
    have e : whl (d :: d2 :: ds) ++ u = (49 + d % 9) :: ((d2 :: ds).map (fun d => 48 + d % 10) ++ u) := rfl
    unfold wholeP
    rw [hd]
    rw [e]
    simp [nxt, hne, hasD, hx]
theorem whl_head (ws u : List Int) : drp 45 (whl ws ++ u) = whl ws ++ u := by
  match ws with
  | [] => rfl
  | [d] => 
    have : ¬ (48 + d % 10 = 45) := by omega
    simp [whl, drp, this]
  | d :: d2 :: ds => 
    have : ¬ (49 + d % 9 = 45) := by omega
    simp [whl, drp, this]
/-- A written number is read whole. -/
theorem written (ng : Bool) (ws : List Int) (hf : Bool) (fr : List Int) (m sg : Int) (ex t : List Int) (h : stops t = true) :
    numP (negT ng ++ (whl ws ++ (fracT hf fr ++ (expT m sg ex ++ t)))) = (true, t) := by
  have h1 := wholeP_T ws _ (fracT_head hf fr m sg ex t h)
  rw [fracP_T hf fr m sg ex t h] at h1
  cases ng with
  | false => show wholeP (drp 45 (whl ws ++ _)) = _; rw [whl_head, h1]
  | true => show wholeP (drp 45 (45 :: _)) = _; simp [drp, h1]
end Go.Proofs.Qxb6604447a
