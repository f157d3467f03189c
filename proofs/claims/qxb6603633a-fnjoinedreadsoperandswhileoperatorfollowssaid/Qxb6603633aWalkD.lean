/- ZZShifts (15). -/
import Derived.Test.Qxb6603633aWalkC
import Derived.RegionTactic
import Derived.ChangeAlike
namespace Go.Proofs.Qxb6603633a
open Go.RowKit
set_option linter.unusedVariables false
open Plain

theorem own_cell2 {w : World} {B : Nat} {e : TypeId} {g n cap : Nat} {xs : List Value} (h : w.ownsRow B e 2 (.slice (some ⟨g, 0, none⟩) n cap) n xs) {k : Nat} (hk : k < n * 2) : ∃ u, w.cell? ⟨g, k, none⟩ = some u := by
  rw [h.cellAt k (by omega)]
  have : xs.length = n * 2 := h.1
  exact ⟨xs[k]'(by omega), List.getElem?_eq_getElem _⟩

/-- One pair of strings written into a row of the call's own. -/
theorem pair_step {w : World} {B : Nat} {g n cap k : Nat} {xs : List Value} {F L : Nat → ByteArray} (h : w.ownsRow B 61 2 (.slice (some ⟨g, 0, none⟩) n cap) n xs) (hk : k < n)
    (hx : ∀ j, j < k → xs[j * 2]? = some (.string (F j)) ∧ xs[j * 2 + 1]? = some (.string (L j))) :
    ∃ ys, ((w.setCell ⟨g, k * 2, none⟩ (.string (F k))).setCell ⟨g, k * 2 + 1, none⟩ (.string (L k))).ownsRow B 61 2 (.slice (some ⟨g, 0, none⟩) n cap) n ys ∧ ∀ j, j < k + 1 → ys[j * 2]? = some (.string (F j)) ∧ ys[j * 2 + 1]? = some (.string (L j)) := by
  have hl : xs.length = n * 2 := h.1
  have h1 := (h.stored (k * 2) (.string (F k))).1
  have h2 := (h1.stored (k * 2 + 1) (.string (L k))).1
  refine ⟨_, h2, fun j hj => ?_⟩
  by_cases e : j = k
  · subst e
    rw [List.getElem?_set_ne (by omega), List.getElem?_set_self (by omega), List.getElem?_set_self (by simp; omega)]
    exact ⟨rfl, rfl⟩
  · have := hx j (by omega)
    rw [List.getElem?_set_ne (by omega), List.getElem?_set_ne (by omega), List.getElem?_set_ne (by omega), List.getElem?_set_ne (by omega)]
    exact this

set_option maxHeartbeats 800000 in
theorem zzshifts_row (lv : Nat) (b o c b' o' c' n : Nat) (F L : Nat → ByteArray) (gd m : ByteArray) (w : World) (h1 : lv ≤ gd.size) (h2 : lv ≤ m.size) (hgd : gd.size ≤ maxLen) (hm : m.size ≤ maxLen)
    (hn : n ≤ 65536) (hb : b < w.heap.size) (hb' : b' < w.heap.size) (hF : ∀ k, k < n → w.cell? ⟨b, o + k, none⟩ = some (.string (F k))) (hL : ∀ k, k < n → w.cell? ⟨b', o' + k, none⟩ = some (.string (L k)))
    (hsz : ∀ k, k < n → (F k).size ≤ m.size) :
    Calls Try.prog 15 #[.int .i64 lv, .slice (some ⟨b, o, none⟩) n c, .slice (some ⟨b', o', none⟩) n c', .string gd, .string m] w fun e w' => e = .returned (.bool (shS lv F L n gd m)) ∧ Below w.heap.size w w' := by
  obtain ⟨i0, hi, hz0, hz1, hz2⟩ := info_parts Try.info61
  go_enter Try.func15, Try.ntmps15
  go_wp2_with (at_make; refine wpList_make_full _ rfl _ _ 59 rfl w.heap.size 61 i0 _ 2 Try.underlying59 hi hz0 hz1 _ _ _ _ n rfl rfl rfl rfl (by rw [hz2]; omega) (by unfold maxLen; omega) (Nat.le_refl _) ?_; intro w1 hown hgrow)
  have hbel := (Below.refl w.heap.size w).grown hgrow (Nat.le_refl _) (fun k h => by cases h)
  go_loopw [12] (fun i wr => ∃ (k : Nat) (xs : List Value), k ≤ n ∧ i = .int .i64 k ∧ wr.ownsRow w.heap.size 61 2 (.slice (some ⟨w.heap.size, 0, none⟩) n n) n xs ∧ (∀ j, j < k → xs[j * 2]? = some (.string (F j)) ∧ xs[j * 2 + 1]? = some (.string (L j))) ∧ Below w.heap.size w wr) (fun i _ => n - (intOf i).toNat)
  case atStart => exact ⟨0, _, Nat.zero_le _, rfl, hown, fun j hj => by omega, hbel⟩
  case round =>
    clear hown hgrow hbel
    obtain ⟨k, xs, hk, rfl, hown, hxs, hbel⟩ := hrel
    by_cases hlt : k < n
    · have c1 : wr.cell? ⟨b, o + k, none⟩ = some (.string (F k)) := (hbel.cell (p := ⟨b, o + k, none⟩) hb).trans (hF k hlt)
      have c2 : wr.cell? ⟨b', o' + k, none⟩ = some (.string (L k)) := (hbel.cell (p := ⟨b', o' + k, none⟩) hb').trans (hL k hlt)
      have hlz : (k : Int) < (n : Int) := by omega
      obtain ⟨u, c3⟩ := own_cell2 (k := k * 2) hown (by omega)
      obtain ⟨u', c4⟩ := own_cell2 (k := k * 2 + 1) hown (by omega)
      have f3 := hown.frozenAt (k * 2)
      have f4 := hown.frozenAt (k * 2 + 1)
      obtain ⟨ys, hown', hys⟩ := pair_step hown hlt hxs
      have hbel' : Below w.heap.size w ((wr.setCell ⟨w.heap.size, k * 2, none⟩ (.string (F k))).setCell ⟨w.heap.size, k * 2 + 1, none⟩ (.string (L k))) := (hbel.setCell (Nat.le_refl _) _).setCell (Nat.le_refl _) _
      clear hF hL hxs hown hbel
      go_wp2
      go_region
      go_wp2
      go_roundw
      case rel => exact ⟨k + 1, ys, by omega, by go_num, hown'.drew, hys, hbel'.drew⟩
      case measure => simp [intOf]; omega
    · have hkn : k = n := by omega
      subst hkn
      have gF : ∀ j, j < k → wr.cell? ⟨w.heap.size, j * 2, none⟩ = some (.string (F j)) := fun j hj => by rw [hown.cellAt _ (by omega)]; exact (hxs j hj).1
      have gL : ∀ j, j < k → wr.cell? ⟨w.heap.size, j * 2 + 1, none⟩ = some (.string (L j)) := fun j hj => by rw [hown.cellAt _ (by omega)]; exact (hxs j hj).2
      have hlt' := (hown.lt w.heap.size rfl).2
      clear hF hL hxs hown
      go_wp2_with fail
      refine (shifts_any lv F L k k w.heap.size gd m wr h1 h2 hgd hm hn hlt' gF gL hsz).mono ?_
      rintro e w2 ⟨rfl, hb2⟩
      go_wp2
      go_ret
      exact ⟨rfl, hbel.trans (hb2.mono (Nat.le_of_lt hlt'))⟩

set_option maxHeartbeats 800000 in
theorem zzshifts_none (lv : Nat) (a a' : Option Addr) (c c' : Nat) (F L : Nat → ByteArray) (gd m : ByteArray) (w : World) (h1 : lv ≤ gd.size) (h2 : lv ≤ m.size) (hgd : gd.size ≤ maxLen) (hm : m.size ≤ maxLen) :
    Calls Try.prog 15 #[.int .i64 lv, .slice a 0 c, .slice a' 0 c', .string gd, .string m] w fun e w' => e = .returned (.bool (shS lv F L 0 gd m)) ∧ Below w.heap.size w w' := by
  obtain ⟨i0, hi, hz0, hz1, hz2⟩ := info_parts Try.info61
  go_enter Try.func15, Try.ntmps15
  go_wp2_with (at_make; refine wpList_make_full _ rfl _ _ 59 rfl w.heap.size 61 i0 _ 2 Try.underlying59 hi hz0 hz1 _ _ _ _ 0 rfl rfl rfl rfl (by rw [hz2]; omega) (by unfold maxLen; omega) (Nat.le_refl _) ?_; intro w1 hown hgrow)
  have hbel := (Below.refl w.heap.size w).grown hgrow (Nat.le_refl _) (fun k h => by cases h)
  have hlt' := (hown.lt w.heap.size rfl).2
  clear hown hgrow
  refine wp_loop_rounds 1 ?_
  rw [rounds_succ]
  go_wp2_with fail
  refine (shifts_any lv F L 0 0 w.heap.size gd m w1 h1 h2 hgd hm (by omega) hlt' (fun j hj => by omega) (fun j hj => by omega) (fun j hj => by omega)).mono ?_
  rintro e w2 ⟨rfl, hb2⟩
  go_wp2
  go_ret
  exact ⟨rfl, hbel.trans (hb2.mono (Nat.le_of_lt hlt'))⟩

/-- ZZShifts over two slices of n strings each. -/
theorem zzshifts_any (lv : Nat) (a a' : Option Addr) (n c c' : Nat) (F L : Nat → ByteArray) (gd m : ByteArray) (w : World) (h1 : lv ≤ gd.size) (h2 : lv ≤ m.size) (hgd : gd.size ≤ maxLen) (hm : m.size ≤ maxLen)
    (hn : n ≤ 65536) (hF : Strs w a n c F) (hL : Strs w a' n c' L) (hsz : ∀ k, k < n → (F k).size ≤ m.size) :
    Calls Try.prog 15 #[.int .i64 lv, .slice a n c, .slice a' n c', .string gd, .string m] w fun e w' => e = .returned (.bool (shS lv F L n gd m)) ∧ Below w.heap.size w w' := by
  by_cases h0 : n = 0
  · subst h0; exact zzshifts_none lv a a' c c' F L gd m w h1 h2 hgd hm
  · obtain ⟨b, o, rfl, hb, hcF⟩ := hF.2.resolve_left h0
    obtain ⟨b', o', rfl, hb', hcL⟩ := hL.2.resolve_left h0
    exact zzshifts_row lv b o c b' o' c' n F L gd m w h1 h2 hgd hm hn hb hb' hcF hcL hsz
end Go.Proofs.Qxb6603633a
