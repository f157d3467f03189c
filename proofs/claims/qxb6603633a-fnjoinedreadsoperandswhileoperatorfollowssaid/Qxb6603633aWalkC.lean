/- zzCloneStringsB1 (10). -/
import Derived.Test.Qxb6603633aWalkB
import Derived.Lib.SliceRun
namespace Go.Proofs.Qxb6603633a
open Go.RowKit
set_option linter.unusedVariables false
open Plain

theorem Try.info9 : (Try.prog.info? 9).map (fun i => (i.zero, i.size, i.bytes)) = some (some (.string ByteArray.empty), 1, 16) := by kernel_rfl
theorem Try.info61 : (Try.prog.info? 61).map (fun i => (i.zero, i.size, i.bytes)) = some (some (.agg #[.string ByteArray.empty, .string ByteArray.empty]), 2, 32) := by kernel_rfl

/-- A slice of strings as it can be read: n strings S 0 .. S (n - 1). -/
def Strs (w : World) (a : Option Addr) (n c : Nat) (S : Nat → ByteArray) : Prop :=
  n ≤ c ∧ (n = 0 ∨ ∃ b o, a = some ⟨b, o, none⟩ ∧ b < w.heap.size ∧ ∀ k, k < n → w.cell? ⟨b, o + k, none⟩ = some (.string (S k)))

theorem Strs.below {w w' : World} {a : Option Addr} {n c : Nat} {S : Nat → ByteArray} (h : Strs w a n c S) (hb : Below w.heap.size w w') : Strs w' a n c S := by
  rcases h.2 with h0 | ⟨b, o, rfl, hlt, hc⟩
  · exact ⟨h.1, .inl h0⟩
  · exact ⟨h.1, .inr ⟨b, o, rfl, Nat.lt_of_lt_of_le hlt hb.size, fun k hk => (hb.cell (p := ⟨b, o + k, none⟩) hlt).trans (hc k hk)⟩⟩

theorem Strs.congr {w : World} {a : Option Addr} {n c : Nat} {S T : Nat → ByteArray} (h : Strs w a n c S) (e : ∀ k, k < n → S k = T k) : Strs w a n c T := by
  rcases h.2 with h0 | ⟨b, o, rfl, hlt, hc⟩
  · exact ⟨h.1, .inl h0⟩
  · exact ⟨h.1, .inr ⟨b, o, rfl, hlt, fun k hk => by rw [hc k hk, e k hk]⟩⟩

set_option maxHeartbeats 400000 in
theorem clone_nil (n c : Nat) (w : World) :
    Calls Try.prog 10 #[.slice none n c] w fun e w' => e = .returned (.slice none 0 0) ∧ w' = w := by
  have q : ∀ (w : World) (a : Option Addr) (n c n' c' : Nat), (binOp .eql 23 (.slice a n c) (.slice none n' c')).run Try.prog w = .ok (.bool a.isNone) w := fun w a n c n' c' => Lib.run_eql_slice_nil w 23 9 a n c n' c' Try.underlying23
  go_enter Try.func10, Try.ntmps10
  go_wp2
  go_ret
  exact ⟨rfl, rfl⟩

theorem own_cell {w : World} {B : Nat} {e : TypeId} {g n cap : Nat} {xs : List Value} (h : w.ownsRow B e 1 (.slice (some ⟨g, 0, none⟩) n cap) n xs) {k : Nat} (hk : k < n) : ∃ u, w.cell? ⟨g, k, none⟩ = some u := by
  rw [h.cellAt k (by omega)]
  have : xs.length = n * 1 := h.1
  exact ⟨xs[k]'(by omega), List.getElem?_eq_getElem _⟩

/-- One string written into a row of the call's own. -/
theorem row_step {w : World} {B : Nat} {g n cap k : Nat} {xs : List Value} {S : Nat → ByteArray} (h : w.ownsRow B 9 1 (.slice (some ⟨g, 0, none⟩) n cap) n xs) (hk : k < n)
    (hx : ∀ j, j < k → xs[j]? = some (.string (S j))) : ∃ ys, (w.setCell ⟨g, k, none⟩ (.string (S k))).ownsRow B 9 1 (.slice (some ⟨g, 0, none⟩) n cap) n ys ∧ ∀ j, j < k + 1 → ys[j]? = some (.string (S j)) := by
  refine ⟨xs.set k (.string (S k)), (h.stored k _).1, fun j hj => ?_⟩
  have hl : xs.length = n * 1 := h.1
  by_cases e : j = k
  · subst e; rw [List.getElem?_set_self (by omega)]
  · rw [List.getElem?_set_ne (by omega)]; exact hx j (by omega)

/-- What such a row reads as. -/
theorem row_strs {w : World} {B : Nat} {g n cap : Nat} {xs : List Value} {S : Nat → ByteArray} (h : w.ownsRow B 9 1 (.slice (some ⟨g, 0, none⟩) n cap) n xs) (hc : n ≤ cap)
    (hx : ∀ j, j < n → xs[j]? = some (.string (S j))) : Strs w (some ⟨g, 0, none⟩) n cap S := by
  refine ⟨hc, .inr ⟨g, 0, rfl, (h.lt g rfl).2, fun k hk => ?_⟩⟩
  rw [Nat.zero_add, h.cellAt k (by omega), hx k hk]

set_option maxHeartbeats 800000 in
theorem clone_row (x : Addr) (n c : Nat) (S : Nat → ByteArray) (w : World) (hn : n ≤ 65536) (hx : Strs w (some x) n c S) :
    Calls Try.prog 10 #[.slice (some x) n c] w fun e w' => e = .returned (.slice (some ⟨w.heap.size, 0, none⟩) n n) ∧ Strs w' (some ⟨w.heap.size, 0, none⟩) n n S ∧ Below w.heap.size w w' ∧ w.heap.size < w'.heap.size := by
  have q : ∀ (w : World) (a : Option Addr) (n c n' c' : Nat), (binOp .eql 23 (.slice a n c) (.slice none n' c')).run Try.prog w = .ok (.bool a.isNone) w := fun w a n c n' c' => Lib.run_eql_slice_nil w 23 9 a n c n' c' Try.underlying23
  obtain ⟨i0, hi, hz0, hz1, hz2⟩ := info_parts Try.info9
  obtain ⟨b, o, hb, hS⟩ : ∃ b o, (n = 0 ∨ x = ⟨b, o, none⟩ ∧ b < w.heap.size) ∧ ∀ k, k < n → w.cell? ⟨b, o + k, none⟩ = some (.string (S k)) := by
    rcases hx.2 with h | ⟨b, o, h, hl, hc⟩
    · exact ⟨0, 0, .inl h, fun k hk => by omega⟩
    · exact ⟨b, o, .inr ⟨by simpa using h, hl⟩, hc⟩
  clear hx
  rcases hb with rfl | ⟨rfl, hb⟩
  · go_enter Try.func10, Try.ntmps10
    go_wp2_with (at_make; refine wpList_make_full _ rfl _ _ 23 rfl w.heap.size 9 i0 _ 1 Try.underlying23 hi hz0 hz1 _ _ _ _ 0 rfl rfl rfl rfl (by rw [hz2]; omega) (by unfold maxLen; omega) (Nat.le_refl _) ?_; intro w1 hown hgrow)
    refine wp_loop_rounds 1 ?_
    rw [rounds_succ]
    go_wp2
    go_ret
    exact ⟨rfl, row_strs hown (Nat.le_refl _) (fun j hj => by omega), (Below.refl _ _).grown hgrow (Nat.le_refl _) (fun k h => by cases h), (hown.lt w.heap.size rfl).2⟩
  · go_enter Try.func10, Try.ntmps10
    go_wp2_with (at_make; refine wpList_make_full _ rfl _ _ 23 rfl w.heap.size 9 i0 _ 1 Try.underlying23 hi hz0 hz1 _ _ _ _ n rfl rfl rfl rfl (by rw [hz2]; omega) (by unfold maxLen; omega) (Nat.le_refl _) ?_; intro w1 hown hgrow)
    have hbel := (Below.refl w.heap.size w).grown hgrow (Nat.le_refl _) (fun k h => by cases h)
    go_loopw [4] (fun i wr => ∃ (k : Nat) (xs : List Value), k ≤ n ∧ i = .int .i64 k ∧ wr.ownsRow w.heap.size 9 1 (.slice (some ⟨w.heap.size, 0, none⟩) n n) n xs ∧ (∀ j, j < k → xs[j]? = some (.string (S j))) ∧ Below w.heap.size w wr) (fun i _ => n - (intOf i).toNat)
    case atStart => exact ⟨0, _, Nat.zero_le _, rfl, hown, fun j hj => by omega, hbel⟩
    case round =>
      clear hown hgrow hbel
      obtain ⟨k, xs, hk, rfl, hown, hxs, hbel⟩ := hrel
      by_cases hlt : k < n
      · have c1 : wr.cell? ⟨b, o + k, none⟩ = some (.string (S k)) := (hbel.cell (p := ⟨b, o + k, none⟩) hb).trans (hS k hlt)
        obtain ⟨u, c2⟩ := own_cell hown hlt
        have f2 := hown.frozenAt k
        obtain ⟨ys, hown', hys⟩ := row_step hown hlt hxs
        have hbel' : Below w.heap.size w (wr.setCell ⟨w.heap.size, k, none⟩ (.string (S k))) := hbel.setCell (Nat.le_refl _) _
        clear hS hxs hown hbel
        go_wp2
        go_roundw
        case rel => exact ⟨k + 1, ys, by omega, by go_num, hown', hys, hbel'⟩
        case measure => simp [intOf]; omega
      · have hkn : k = n := by omega
        subst hkn
        go_wp2
        go_ret
        exact ⟨rfl, row_strs hown (Nat.le_refl _) hxs, hbel, (hown.lt w.heap.size rfl).2⟩

/-- The clone of a slice of strings, nil or not. -/
theorem clone_any (a : Option Addr) (n c : Nat) (S : Nat → ByteArray) (w : World) (hn : n ≤ 65536) (hz : a = none → n = 0) (hx : Strs w a n c S) :
    Calls Try.prog 10 #[.slice a n c] w fun e w' => ∃ a' c', e = .returned (.slice a' n c') ∧ Strs w' a' n c' S ∧ Below w.heap.size w w' := by
  match a, hz, hx with
  | none, hz, hx =>
    obtain rfl := hz rfl
    refine (clone_nil 0 c w).mono ?_
    rintro e w' ⟨rfl, rfl⟩
    exact ⟨none, 0, rfl, ⟨Nat.le_refl _, .inl rfl⟩, Below.refl _ _⟩
  | some x, _, hx =>
    refine (clone_row x n c S w hn hx).mono ?_
    rintro e w' ⟨rfl, hs, hb, _⟩
    exact ⟨_, _, rfl, hs, hb⟩
end Go.Proofs.Qxb6603633a
