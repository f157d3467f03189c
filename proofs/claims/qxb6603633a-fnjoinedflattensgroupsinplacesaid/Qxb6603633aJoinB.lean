/- (*parser).joined (23), operands single. -/
import Derived.Test.Qxb6603633aJoinA
import Derived.Maps.AppendAt
namespace Go.Proofs.Qxb6603633a
open Go.RowKit
set_option linter.unusedVariables false

theorem Try.info44 : (Try.prog.info? 44).map (fun i => (i.zero, i.size, i.bytes)) = some (some .nilIface, 1, 16) := by kernel_rfl

/-- An operator stands at each of the first i odd places. -/
def Follows (n : Nat) (K : Nat → Int) (op : Int) (i : Nat) : Prop := ∀ t, t < i → 2 * t + 1 < n ∧ K (2 * t + 1) = op
theorem Follows.succ {n : Nat} {K : Nat → Int} {op : Int} {i : Nat} (h : Follows n K op i) (h1 : 2 * i + 1 < n) (h2 : K (2 * i + 1) = op) : Follows n K op (i + 1) := by
  intro t ht
  by_cases e : t = i
  · subst e; exact ⟨h1, h2⟩
  · exact h t (by omega)
/-- There is one such place at which it stops. -/
theorem Follows.unique {n : Nat} {K : Nat → Int} {op : Int} {i j : Nat} (h : Follows n K op i) (k : Follows n K op j) (h' : ¬ (2 * i + 1 < n ∧ K (2 * i + 1) = op)) (k' : ¬ (2 * j + 1 < n ∧ K (2 * j + 1) = op)) : i = j := by
  rcases Nat.lt_trichotomy i j with l | l | l
  · exact absurd (k i l) h'
  · exact l
  · exact absurd (h j l) k'

/-- SpecificProcess of the i-th operand's text. -/
def spV (T : Nat → ByteArray) (i : Nat) : Value := .iface 49 (.agg #[.string (T (2 * i))])
def rules1 (T : Nat → ByteArray) : Nat → List Value
  | 0 => []
  | i + 1 => rules1 T i ++ [spV T i]
def rules2 (T : Nat → ByteArray) : Nat → List Value
  | 0 => []
  | i + 1 => rules2 T i ++ [spV T i, spV T i]

def lenV : Value → Nat | .slice _ n _ => n | _ => 0
theorem lenV_own {w : World} {B e size n : Nat} {v : Value} {xs : List Value} (h : w.ownsRow B e size v n xs) : lenV v = n := by
  rcases h.2 with ⟨rfl, rfl⟩ | ⟨g, cap, cur, rfl, _⟩ <;> rfl
theorem own_apart {w : World} {B e size n k : Nat} {v : Value} {xs : List Value} (h : w.ownsRow B e size v n xs) (hk : k < B) : v.ownBlock = none ∨ v.ownBlock ≠ some k := by
  right; intro e; have := h.lt k e; omega

theorem own_below {w w' : World} {B e size n : Nat} {v : Value} {xs : List Value} (h : w.ownsRow B e size v n xs) (hb : Below w.heap.size w w') : w'.ownsRow B e size v n xs :=
  h.kept (grownBy_of hb none) (by cases hv : v.ownBlock <;> simp)

/-- A write to a row of the call's own, above the parser's blocks. -/
theorem JS.other {w w' : World} {N n : Nat} {K : Nat → Int} {T : Nat → ByteArray} {p : Bool} {pos : Nat} {r : Option Nat} (h : JS w N n K T p pos) (hg : w.grownBy w' r) (hr : ∀ k, r = some k → N + 4 ≤ k) : JS w' N n K T p pos := by
  have hs := h.sz
  have ne : ∀ b, b < N + 4 → some b ≠ r := fun b hb e => by have := hr b e.symm; omega
  refine ⟨hg.cell h.pb (ne _ (by show N < _; omega)), fun k hk => hg.cell (h.tk k hk) (ne _ (by show N + 1 < _; omega)), fun k hk => hg.cell (h.tt k hk) (ne _ (by show N + 1 < _; omega)), hg.cell h.p0 (ne _ (by show N + 2 < _; omega)), hg.cell h.p1 (ne _ (by show N + 2 < _; omega)), ?_,
    hg.cell h.pv (ne _ (by show N + 3 < _; omega)), Nat.le_trans hs hg.size⟩
  rw [World.frozen?_of_block (a := ⟨N + 2, 1, none⟩) (hg.block (N + 2) (by omega) (ne _ (by omega)))]
  exact h.f1

set_option maxHeartbeats 1600000 in
theorem joined_single {N n : Nat} {K : Nat → Int} {T : Nat → ByteArray} (op : Int) (w : World) (h : JS w N n K T false 0) (hn : n ≤ 65536) :
    Calls Try.prog 23 #[.pointer (some ⟨N + 2, 0, none⟩), .int .i64 op, .func (.func 20) #[] #[.pointer (some ⟨N + 3, 0, none⟩), .pointer (some ⟨N, 0, none⟩)], .func (.func 22) #[] #[]] w fun e w' =>
      ∃ i, Follows n K op i ∧ Below N w w' ∧
        ((2 * i = n ∧ (∃ x, e = .returned (.tuple #[.slice none 0 0, .iface 65 x])) ∧ JS w' N n K T false n) ∨
         (2 * i < n ∧ ¬ (2 * i + 1 < n ∧ K (2 * i + 1) = op) ∧ ∃ v, e = .returned (.tuple #[v, .nilIface]) ∧ JS w' N n K T false (2 * i + 1) ∧ w'.ownsRow (N + 4) 44 1 v (i + 1) (rules1 T (i + 1)))) := by
  obtain ⟨i0, hi, hz0, hz1, hz2⟩ := info_parts Try.info44
  go_enter Try.func23, Try.ntmps23
  go_wp2
  go_loopw [10] (fun v wr => ∃ i, 2 * i ≤ n ∧ Follows n K op i ∧ JS wr N n K T false (2 * i) ∧ wr.ownsRow (N + 4) 44 1 v i (rules1 T i) ∧ Below N w wr) (fun v _ => n + 2 - lenV v)
  case atStart => exact ⟨0, Nat.zero_le _, fun t ht => by omega, h, World.ownsRow_nil _ _ _ _, Below.refl _ _⟩
  case round =>
    obtain ⟨i, hin, hfol, hJ, hown, hbel⟩ := hrel
    clear h
    by_cases hlt : 2 * i < n
    · have hsz := hJ.sz
      go_wp2_with fail
      refine (operand_single _ hJ hlt hn).mono ?_
      rintro e w1 ⟨rfl, hg1, hJ1⟩
      have hown1 := hown.kept hg1 (own_apart hown (by omega))
      have hbel1 : Below N w w1 := hbel.grown hg1 (by omega) (fun k hk => by cases hk; omega)
      clear hJ
      go_wp2_with fail
      refine (inner_single _ _).mono ?_
      rintro e w2 ⟨rfl, hb2⟩
      have hJ2 := hJ1.below hb2
      have hown2 := own_below hown1 hb2
      have hbel2 : Below N w w2 := hbel1.trans (hb2.mono (by have := hJ1.sz; omega))
      clear hown1 hJ1 hb2 hbel1
      have hsz2 := hJ2.sz
      go_wp2_with (at_builtin; refine wpList_append_own _ rfl _ _ 50 rfl (N + 4) 44 i0 _ 1 16 Try.underlying50 hi hz0 hz1 hz2 rfl (by decide) _ _ _ rfl (hown2.alloc _) ⟨w2.heap.size, 0, none⟩ 1 1 [spV T i] rfl rfl (cell_one_new _ _ _) (by intro u hu; simp at hu; subst hu; rfl) (by unfold maxLen; omega) (by omega) (by simp; omega) ?_; intro v' w3 hown3 hg3 _)
      have hJ3 : JS w3 N n K T false (2 * i + 1) := (hJ2.below ((Below.refl _ _).alloc (Nat.le_refl _) _)).other hg3 (fun k hk => (hown2.lt k hk).1)
      have hbel3 : Below N w w3 := (hbel2.alloc (by omega) _).grown hg3 (by simp; omega) (fun k hk => by have := (hown2.lt k hk).1; omega)
      clear hown2 hJ2 hbel2 hg3
      have hsz3 := hJ3.sz
      by_cases htk : 2 * i + 1 < n ∧ K (2 * i + 1) = op
      · refine (take_yes op _ hJ3 hn htk.1 htk.2).mono ?_
        rintro e w4 ⟨rfl, hg4, hJ4⟩
        have hown4 := hown3.kept hg4 (own_apart hown3 (by omega))
        have hbel4 : Below N w w4 := hbel3.grown hg4 (by omega) (fun k hk => by cases hk; omega)
        have hl1 := lenV_own hown
        have hl4 := lenV_own hown4
        have hfol' := hfol.succ htk.1 htk.2
        obtain ⟨hlt1, _⟩ := htk
        clear hown hown3 hJ3 hbel3 hg4 hfol
        have HL1 : Hid _ := hl1
        have HL4 : Hid _ := hl4
        clear hl1 hl4
        go_wp2
        go_roundw
        case rel => exact ⟨i + 1, by omega, hfol', hJ4, hown4, hbel4⟩
        case measure => rw [HL1.out, HL4.out]; omega
      · refine (take_no op _ hJ3 htk).mono ?_
        rintro e w4 ⟨rfl, hb4⟩
        have hJ4 := hJ3.below hb4
        have hown4 := own_below hown3 hb4
        have hbel4 : Below N w w4 := hbel3.trans (hb4.mono (by omega))
        clear hown3 hJ3 hbel3 hb4
        go_wp2
        go_ret2
        exact ⟨i, hfol, hbel4, .inr ⟨hlt, htk, _, rfl, hJ4, hown4⟩⟩
    · go_wp2_with fail
      refine (operand_end _ hJ (by omega)).mono ?_
      rintro e w1 ⟨⟨x, rfl⟩, hb1⟩
      go_wp2
      go_ret2
      exact ⟨i, hfol, hbel.trans (hb1.mono (by have := hJ.sz; omega)), .inl ⟨by omega, ⟨_, rfl⟩, by have := hJ.below hb1; rwa [show 2 * i = n by omega] at this⟩⟩
end Go.Proofs.Qxb6603633a
