/- The bounds (7, 12, 8) and the clone of ints (9) of the 'Joined' laws. -/
import Derived.Test.Qxb6603633aJoinE
namespace Go.Proofs.Qxb6603633a
open Go.RowKit
set_option linter.unusedVariables false

theorem Try.info3 : (Try.prog.info? 3).map (fun i => (i.zero, i.size, i.bytes)) = some (some (.int .i64 0), 1, 8) := by kernel_rfl

set_option maxHeartbeats 1600000 in
theorem tokenOK_any (a a' : Option Addr) (n n' c c' : Nat) (T : Nat → ByteArray) (w : World) (hT : Strs w a' n' c' T) (hn : n ≤ 65536) (hn' : n' ≤ 65536) :
    Calls Try.prog 8 #[.slice a n c, .slice a' n' c'] w fun e w' => Says w e w' := by
  go_enter Try.func8, Try.ntmps8
  go_wp2
  all_goals try (go_ret; exact Says.mk _ _)
  go_loop [5, 6] (fun z i => ∃ k s : Nat, k ≤ n' ∧ i = .int .i64 k ∧ z = .int .i64 s ∧ s ≤ 1048576) (fun _ i => n' - (intOf i).toNat)
  case atStart => exact ⟨0, 8 * n, Nat.zero_le _, rfl, by go_num, by omega⟩
  case round =>
    obtain ⟨k, s, hk, rfl, rfl, hs⟩ := hrel
    by_cases hlt : k < n'
    · obtain ⟨b, o, rfl, c1⟩ := hT.at k hlt
      clear hT
      go_wp2
      · go_ret; exact Says.mk _ _
      · go_ret; exact Says.mk _ _
      · go_round
        case rel => exact ⟨k + 1, s + (T k).size, by omega, by go_num, by go_num, by omega⟩
        case measure => simp [intOf]; omega
    · go_wp2
      go_ret
      exact Says.mk _ _

set_option maxHeartbeats 1600000 in
theorem bytes7_any (a a' : Option Addr) (n n' c c' : Nat) (T : Nat → ByteArray) (op : Int) (w : World) (hT : Strs w a' n' c' T) (hn : n ≤ maxLen) (hn' : n' ≤ maxLen) :
    Calls Try.prog 7 #[.slice a n c, .slice a' n' c', .int .i64 op] w fun e w' => Says w e w' := by
  unfold maxLen at hn hn'
  go_enter Try.func7, Try.ntmps7
  go_wp2
  all_goals try (go_ret; exact Says.mk _ _)
  go_loop [7, 8] (fun z i => ∃ k s : Nat, k ≤ n' ∧ i = .int .i64 k ∧ z = .int .i64 s ∧ s ≤ 1048576) (fun _ i => n' - (intOf i).toNat)
  case atStart => exact ⟨0, n + n', Nat.zero_le _, rfl, by go_num, by omega⟩
  case round =>
    obtain ⟨k, s, hk, rfl, rfl, hs⟩ := hrel
    by_cases hlt : k < n'
    · obtain ⟨b, o, rfl, c1⟩ := hT.at k hlt
      clear hT
      go_wp2
      · go_ret; exact Says.mk _ _
      · go_ret; exact Says.mk _ _
      · go_round
        case rel => exact ⟨k + 1, s + (T k).size, by omega, by go_num, by go_num, by omega⟩
        case measure => simp [intOf]; omega
    · go_wp2
      go_ret
      exact Says.mk _ _

set_option maxHeartbeats 1600000 in
theorem bytes12_any (a a' : Option Addr) (n n' c c' : Nat) (T : Nat → ByteArray) (op : Int) (w : World) (hT : Strs w a' n' c' T) (hn : n ≤ maxLen) (hn' : n' ≤ maxLen) :
    Calls Try.prog 12 #[.slice a n c, .slice a' n' c', .int .i64 op] w fun e w' => Says w e w' := by
  unfold maxLen at hn hn'
  go_enter Try.func12, Try.ntmps12
  go_wp2
  all_goals try (go_ret; exact Says.mk _ _)
  go_loop [7, 8] (fun z i => ∃ k s : Nat, k ≤ n' ∧ i = .int .i64 k ∧ z = .int .i64 s ∧ s ≤ 1048576) (fun _ i => n' - (intOf i).toNat)
  case atStart => exact ⟨0, n + n', Nat.zero_le _, rfl, by go_num, by omega⟩
  case round =>
    obtain ⟨k, s, hk, rfl, rfl, hs⟩ := hrel
    by_cases hlt : k < n'
    · obtain ⟨b, o, rfl, c1⟩ := hT.at k hlt
      clear hT
      go_wp2
      · go_ret; exact Says.mk _ _
      · go_ret; exact Says.mk _ _
      · go_round
        case rel => exact ⟨k + 1, s + (T k).size, by omega, by go_num, by go_num, by omega⟩
        case measure => simp [intOf]; omega
    · go_wp2
      go_ret
      exact Says.mk _ _

set_option maxHeartbeats 400000 in
theorem cloneI_nil (n c : Nat) (w : World) :
    Calls Try.prog 9 #[.slice none n c] w fun e w' => e = .returned (.slice none 0 0) ∧ w' = w := by
  have q : ∀ (w : World) (a : Option Addr) (n c n' c' : Nat), (binOp .eql 22 (.slice a n c) (.slice none n' c')).run Try.prog w = .ok (.bool a.isNone) w := fun w a n c n' c' => Lib.run_eql_slice_nil w 22 3 a n c n' c' Try.underlying22
  go_enter Try.func9, Try.ntmps9
  go_wp2
  go_ret
  exact ⟨rfl, rfl⟩

theorem rowI_step {w : World} {B : Nat} {g n cap k : Nat} {xs : List Value} {K : Nat → Int} (h : w.ownsRow B 3 1 (.slice (some ⟨g, 0, none⟩) n cap) n xs) (hk : k < n)
    (hx : ∀ j, j < k → xs[j]? = some (.int .i64 (K j))) : ∃ ys, (w.setCell ⟨g, k, none⟩ (.int .i64 (K k))).ownsRow B 3 1 (.slice (some ⟨g, 0, none⟩) n cap) n ys ∧ ∀ j, j < k + 1 → ys[j]? = some (.int .i64 (K j)) := by
  refine ⟨xs.set k (.int .i64 (K k)), (h.stored k _).1, fun j hj => ?_⟩
  have hl : xs.length = n * 1 := h.1
  by_cases e : j = k
  · subst e; rw [List.getElem?_set_self (by omega)]
  · rw [List.getElem?_set_ne (by omega)]; exact hx j (by omega)

theorem rowI_ints {w : World} {B : Nat} {g n cap : Nat} {xs : List Value} {K : Nat → Int} (h : w.ownsRow B 3 1 (.slice (some ⟨g, 0, none⟩) n cap) n xs) (hc : n ≤ cap)
    (hx : ∀ j, j < n → xs[j]? = some (.int .i64 (K j))) : Ints w (some ⟨g, 0, none⟩) n cap K := by
  refine ⟨hc, .inr ⟨g, 0, rfl, (h.lt g rfl).2, fun k hk => ?_⟩⟩
  rw [Nat.zero_add, h.cellAt k (by omega), hx k hk]

set_option maxHeartbeats 800000 in
theorem cloneI_row (x : Addr) (n c : Nat) (K : Nat → Int) (w : World) (hn : n ≤ 65536) (hx : Ints w (some x) n c K) :
    Calls Try.prog 9 #[.slice (some x) n c] w fun e w' => e = .returned (.slice (some ⟨w.heap.size, 0, none⟩) n n) ∧ Ints w' (some ⟨w.heap.size, 0, none⟩) n n K ∧ Below w.heap.size w w' := by
  have q : ∀ (w : World) (a : Option Addr) (n c n' c' : Nat), (binOp .eql 22 (.slice a n c) (.slice none n' c')).run Try.prog w = .ok (.bool a.isNone) w := fun w a n c n' c' => Lib.run_eql_slice_nil w 22 3 a n c n' c' Try.underlying22
  obtain ⟨i0, hi, hz0, hz1, hz2⟩ := info_parts Try.info3
  go_enter Try.func9, Try.ntmps9
  go_wp2_with (at_make; refine wpList_make_full _ rfl _ _ 22 rfl w.heap.size 3 i0 _ 1 Try.underlying22 hi hz0 hz1 _ _ _ _ n rfl rfl rfl rfl (by rw [hz2]; omega) (by unfold maxLen; omega) (Nat.le_refl _) ?_; intro w1 hown hgrow)
  have hbel := (Below.refl w.heap.size w).grown hgrow (Nat.le_refl _) (fun k h => by cases h)
  go_loopw [4] (fun i wr => ∃ (k : Nat) (xs : List Value), k ≤ n ∧ i = .int .i64 k ∧ wr.ownsRow w.heap.size 3 1 (.slice (some ⟨w.heap.size, 0, none⟩) n n) n xs ∧ (∀ j, j < k → xs[j]? = some (.int .i64 (K j))) ∧ Below w.heap.size w wr) (fun i _ => n - (intOf i).toNat)
  case atStart => exact ⟨0, _, Nat.zero_le _, rfl, hown, fun j hj => by omega, hbel⟩
  case round =>
    clear hown hgrow hbel
    obtain ⟨k, xs, hk, rfl, hown, hxs, hbel⟩ := hrel
    by_cases hlt : k < n
    · obtain ⟨b, o, e, hb, hc⟩ := hx.at k hlt
      obtain rfl : x = ⟨b, o, none⟩ := by simpa using e
      have c1 : wr.cell? ⟨b, o + k, none⟩ = some (.int .i64 (K k)) := (hbel.cell (p := ⟨b, o + k, none⟩) hb).trans hc
      obtain ⟨u, c2⟩ := own_cell hown hlt
      have f2 := hown.frozenAt k
      obtain ⟨ys, hown', hys⟩ := rowI_step hown hlt hxs
      have hbel' : Below w.heap.size w (wr.setCell ⟨w.heap.size, k, none⟩ (.int .i64 (K k))) := hbel.setCell (Nat.le_refl _) _
      clear e hx hxs hown hbel hc
      go_wp2
      go_roundw
      case rel => exact ⟨k + 1, ys, by omega, by go_num, hown', hys, hbel'⟩
      case measure => simp [intOf]; omega
    · have hkn : k = n := by omega
      subst hkn
      go_wp2
      go_ret
      exact ⟨rfl, rowI_ints hown (Nat.le_refl _) hxs, hbel⟩

theorem cloneI_any (a : Option Addr) (n c : Nat) (K : Nat → Int) (w : World) (hn : n ≤ 65536) (hz : a = none → n = 0) (hx : Ints w a n c K) :
    Calls Try.prog 9 #[.slice a n c] w fun e w' => ∃ a' c', e = .returned (.slice a' n c') ∧ Ints w' a' n c' K ∧ Below w.heap.size w w' := by
  match a, hz, hx with
  | none, hz, hx =>
    obtain rfl := hz rfl
    refine (cloneI_nil 0 c w).mono ?_
    rintro e w' ⟨rfl, rfl⟩
    exact ⟨none, 0, rfl, ⟨Nat.le_refl _, .inl rfl⟩, Below.refl _ _⟩
  | some x, _, hx =>
    refine (cloneI_row x n c K w hn hx).mono ?_
    rintro e w' ⟨rfl, hs, hb⟩
    exact ⟨_, _, rfl, hs, hb⟩
end Go.Proofs.Qxb6603633a
