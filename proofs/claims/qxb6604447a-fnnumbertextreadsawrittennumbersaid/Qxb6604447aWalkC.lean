/- zzNumberStep (8), zzNumberAccepting (9), zzBytes (5), zzCloneBytes (6), ZZnumberText (7). -/
import Derived.Test.Qxb6604447aWalkB
import Derived.Lib.SliceRun
import Derived.OwnWalk
namespace Go.Proofs.Qxb6604447a
open Go.RowKit
set_option linter.unusedVariables false

theorem Try.info5 : (Try.prog.info? 5).map (fun i => (i.zero, i.size, i.bytes)) = some (some (.int .u8 0), 1, 1) := by kernel_rfl

/-- A slice of bytes as it can be read: n of them, S 0 .. S (n - 1). -/
def Byts (w : World) (a : Option Addr) (n c : Nat) (S : Nat → Int) : Prop :=
  n ≤ c ∧ (n = 0 ∨ ∃ b o, a = some ⟨b, o, none⟩ ∧ b < w.heap.size ∧ ∀ k, k < n → w.cell? ⟨b, o + k, none⟩ = some (.int .u8 (S k)))
theorem Byts.below {w w' : World} {a : Option Addr} {n c : Nat} {S : Nat → Int} (h : Byts w a n c S) (hb : Below w.heap.size w w') : Byts w' a n c S := by
  rcases h.2 with h0 | ⟨b, o, rfl, hlt, hc⟩
  · exact ⟨h.1, .inl h0⟩
  · exact ⟨h.1, .inr ⟨b, o, rfl, Nat.lt_of_lt_of_le hlt hb.size, fun k hk => (hb.cell (p := ⟨b, o + k, none⟩) hlt).trans (hc k hk)⟩⟩
theorem Byts.at {w : World} {a : Option Addr} {n c : Nat} {S : Nat → Int} (h : Byts w a n c S) (k : Nat) (hk : k < n) : ∃ b o, a = some ⟨b, o, none⟩ ∧ b < w.heap.size ∧ w.cell? ⟨b, o + k, none⟩ = some (.int .u8 (S k)) := by
  rcases h.2 with h | ⟨b, o, h, hb, hc⟩
  · omega
  · exact ⟨b, o, h, hb, hc k hk⟩
theorem Byts.drawn {w : World} {a : Option Addr} {n c : Nat} {S : Nat → Int} (h : Byts w a n c S) (q : Nat) : Byts (w.drewN q) a n c S := h

set_option maxHeartbeats 800000 in
theorem bytes5 (a : Option Addr) (n c : Nat) (p : Int) (w : World) (hn : n ≤ maxLen) :
    Calls Try.prog 5 #[.slice a n c, .int .i64 p] w fun e w' => e = .returned (.bool (decide (n ≤ 1048576))) ∧ w' = w := by
  unfold maxLen at hn
  by_cases h : n ≤ 1048576
  · have hd : decide (n ≤ 1048576) = true := decide_eq_true h
    rw [hd]
    go_enter Try.func5, Try.ntmps5
    go_wp2
    go_ret
    exact ⟨rfl, rfl⟩
  · have hd : decide (n ≤ 1048576) = false := decide_eq_false h
    rw [hd]
    go_enter Try.func5, Try.ntmps5
    go_wp2
    go_ret
    exact ⟨rfl, rfl⟩

set_option maxHeartbeats 800000 in
theorem acc_any (st : Int) (w : World) : Calls Try.prog 9 #[.int .i64 st] w fun e w' => e = .returned (.bool (acc st)) ∧ w' = w := by
  by_cases h2 : st = 2
  · subst h2
    go_enter Try.func9, Try.ntmps9
    go_wp2
    go_ret
    exact ⟨rfl, rfl⟩
  · by_cases h3 : st = 3
    · subst h3
      go_enter Try.func9, Try.ntmps9
      go_wp2
      go_ret
      exact ⟨rfl, rfl⟩
    · by_cases h5 : st = 5
      · subst h5
        go_enter Try.func9, Try.ntmps9
        go_wp2
        go_ret
        exact ⟨rfl, rfl⟩
      · by_cases h8 : st = 8
        · subst h8
          go_enter Try.func9, Try.ntmps9
          go_wp2
          go_ret
          exact ⟨rfl, rfl⟩
        · have e2 : (st == 2) = false := by simpa using h2
          have e3 : (st == 3) = false := by simpa using h3
          have e5 : (st == 5) = false := by simpa using h5
          have e8 : (st == 8) = false := by simpa using h8
          have ha : acc st = false := by simp [acc, h2, h3, h5, h8]
          rw [ha]
          clear ha
          go_enter Try.func9, Try.ntmps9
          go_wp2
          go_ret
          exact ⟨rfl, rfl⟩

theorem ret_mk {x y : Int} {w : World} (h : x = y) : Ending.returned (.int .i64 x) = Ending.returned (.int .i64 y) ∧ w = w := by subst h; exact ⟨rfl, rfl⟩

set_option maxHeartbeats 4000000 in
theorem step_any (st c : Int) (w : World) (h0 : 0 ≤ st) (h8 : st ≤ 8) : Calls Try.prog 8 #[.int .i64 st, .int .u8 c] w fun e w' => e = .returned (.int .i64 (step st c)) ∧ w' = w := by
  rcases (show st = 0 ∨ st = 1 ∨ st = 2 ∨ st = 3 ∨ st = 4 ∨ st = 5 ∨ st = 6 ∨ st = 7 ∨ st = 8 by omega) with rfl | rfl | rfl | rfl | rfl | rfl | rfl | rfl | rfl
  all_goals clear h0 h8
  all_goals go_enter Try.func8, Try.ntmps8
  all_goals go_wp2
  all_goals go_ret
  all_goals refine ret_mk ?_
  all_goals unfold step isDig
  all_goals simp only [Int.reduceEq, if_true, if_false, Bool.and_eq_true, decide_eq_true_eq]
  all_goals repeat' split
  all_goals try omega
  all_goals (try simp only [beq_iff_eq, beq_eq_false_iff_ne, ne_eq] at *)
  all_goals omega

set_option maxHeartbeats 400000 in
theorem clone_nil (n c : Nat) (w : World) :
    Calls Try.prog 6 #[.slice none n c] w fun e w' => e = .returned (.slice none 0 0) ∧ w' = w := by
  have q : ∀ (w : World) (a : Option Addr) (n c n' c' : Nat), (binOp .eql 22 (.slice a n c) (.slice none n' c')).run Try.prog w = .ok (.bool a.isNone) w := fun w a n c n' c' => Lib.run_eql_slice_nil w 22 5 a n c n' c' Try.underlying22
  go_enter Try.func6, Try.ntmps6
  go_wp2
  go_ret
  exact ⟨rfl, rfl⟩

theorem own_cell {w : World} {B : Nat} {e : TypeId} {g n cap : Nat} {xs : List Value} (h : w.ownsRow B e 1 (.slice (some ⟨g, 0, none⟩) n cap) n xs) {k : Nat} (hk : k < n) : ∃ u, w.cell? ⟨g, k, none⟩ = some u := by
  rw [h.cellAt k (by omega)]
  have : xs.length = n * 1 := h.1
  exact ⟨xs[k]'(by omega), List.getElem?_eq_getElem _⟩

theorem rowB_step {w : World} {B : Nat} {g n cap k : Nat} {xs : List Value} {K : Nat → Int} (h : w.ownsRow B 5 1 (.slice (some ⟨g, 0, none⟩) n cap) n xs) (hk : k < n)
    (hx : ∀ j, j < k → xs[j]? = some (.int .u8 (K j))) : ∃ ys, (w.setCell ⟨g, k, none⟩ (.int .u8 (K k))).ownsRow B 5 1 (.slice (some ⟨g, 0, none⟩) n cap) n ys ∧ ∀ j, j < k + 1 → ys[j]? = some (.int .u8 (K j)) := by
  refine ⟨xs.set k (.int .u8 (K k)), (h.stored k _).1, fun j hj => ?_⟩
  have hl : xs.length = n * 1 := h.1
  by_cases e : j = k
  · subst e; rw [List.getElem?_set_self (by omega)]
  · rw [List.getElem?_set_ne (by omega)]; exact hx j (by omega)

theorem rowB_byts {w : World} {B : Nat} {g n cap : Nat} {xs : List Value} {K : Nat → Int} (h : w.ownsRow B 5 1 (.slice (some ⟨g, 0, none⟩) n cap) n xs) (hc : n ≤ cap)
    (hx : ∀ j, j < n → xs[j]? = some (.int .u8 (K j))) : Byts w (some ⟨g, 0, none⟩) n cap K := by
  refine ⟨hc, .inr ⟨g, 0, rfl, (h.lt g rfl).2, fun k hk => ?_⟩⟩
  rw [Nat.zero_add, h.cellAt k (by omega), hx k hk]

set_option maxHeartbeats 800000 in
theorem clone_row (x : Addr) (n c : Nat) (K : Nat → Int) (w : World) (hn : n ≤ 1048576) (hx : Byts w (some x) n c K) :
    Calls Try.prog 6 #[.slice (some x) n c] w fun e w' => e = .returned (.slice (some ⟨w.heap.size, 0, none⟩) n n) ∧ Byts w' (some ⟨w.heap.size, 0, none⟩) n n K ∧ Below w.heap.size w w' := by
  have q : ∀ (w : World) (a : Option Addr) (n c n' c' : Nat), (binOp .eql 22 (.slice a n c) (.slice none n' c')).run Try.prog w = .ok (.bool a.isNone) w := fun w a n c n' c' => Lib.run_eql_slice_nil w 22 5 a n c n' c' Try.underlying22
  obtain ⟨i0, hi, hz0, hz1, hz2⟩ := info_parts Try.info5
  go_enter Try.func6, Try.ntmps6
  go_wp2_with (at_make; refine wpList_make_full _ rfl _ _ 22 rfl w.heap.size 5 i0 _ 1 Try.underlying22 hi hz0 hz1 _ _ _ _ n rfl rfl rfl rfl (by rw [hz2]; omega) (by unfold maxLen; omega) (Nat.le_refl _) ?_; intro w1 hown hgrow)
  have hbel := (Below.refl w.heap.size w).grown hgrow (Nat.le_refl _) (fun k h => by cases h)
  go_loopw [4] (fun i wr => ∃ (k : Nat) (xs : List Value), k ≤ n ∧ i = .int .i64 k ∧ wr.ownsRow w.heap.size 5 1 (.slice (some ⟨w.heap.size, 0, none⟩) n n) n xs ∧ (∀ j, j < k → xs[j]? = some (.int .u8 (K j))) ∧ Below w.heap.size w wr) (fun i _ => n - (intOf i).toNat)
  case atStart => exact ⟨0, _, Nat.zero_le _, rfl, hown, fun j hj => by omega, hbel⟩
  case round =>
    clear hown hgrow hbel
    obtain ⟨k, xs, hk, rfl, hown, hxs, hbel⟩ := hrel
    by_cases hlt : k < n
    · obtain ⟨b, o, e, hb, hc⟩ := hx.at k hlt
      obtain rfl : x = ⟨b, o, none⟩ := by simpa using e
      have c1 : wr.cell? ⟨b, o + k, none⟩ = some (.int .u8 (K k)) := (hbel.cell (p := ⟨b, o + k, none⟩) hb).trans hc
      obtain ⟨u, c2⟩ := own_cell hown hlt
      have f2 := hown.frozenAt k
      obtain ⟨ys, hown', hys⟩ := rowB_step hown hlt hxs
      have hbel' : Below w.heap.size w (wr.setCell ⟨w.heap.size, k, none⟩ (.int .u8 (K k))) := hbel.setCell (Nat.le_refl _) _
      clear e hx hxs hown hbel hc
      go_wp2
      go_roundw
      case rel => exact ⟨k + 1, ys, by omega, by go_num, hown', hys, hbel'⟩
      case measure => simp [intOf]; omega
    · have hkn : k = n := by omega
      subst hkn
      go_wp2
      go_ret
      exact ⟨rfl, rowB_byts hown (Nat.le_refl _) hxs, hbel⟩

theorem clone_any (a : Option Addr) (n c : Nat) (K : Nat → Int) (w : World) (hn : n ≤ 1048576) (hz : a = none → n = 0) (hx : Byts w a n c K) :
    Calls Try.prog 6 #[.slice a n c] w fun e w' => ∃ a' c', e = .returned (.slice a' n c') ∧ Byts w' a' n c' K ∧ (a' = none → n = 0) ∧ Below w.heap.size w w' := by
  match a, hz, hx with
  | none, hz, hx =>
    obtain rfl := hz rfl
    refine (clone_nil 0 c w).mono ?_
    rintro e w' ⟨rfl, rfl⟩
    exact ⟨none, 0, rfl, ⟨Nat.le_refl _, .inl rfl⟩, fun _ => rfl, Below.refl _ _⟩
  | some x, _, hx =>
    refine (clone_row x n c K w hn hx).mono ?_
    rintro e w' ⟨rfl, hs, hb⟩
    exact ⟨_, _, rfl, hs, (fun h => by cases h), hb⟩

/-- The reader, newly made. -/
theorem rs_new {w : World} {a : Option Addr} {n c : Nat} {S : Nat → Int} {p : Nat} (h : Byts w a n c S) (hp : p ≤ n) (hn : n ≤ 16777216) (v : Value) (t : TypeId) :
    RS (w.alloc (.cells #[.slice a n c, .int .i64 p, v] t)) w.heap.size a n c S p := by
  refine ⟨?_, ?_, ?_, ?_, by simp, hp, hn⟩
  · rcases h.2 with h0 | ⟨b, o, rfl, hlt, hc⟩
    · exact .inl h0
    · exact .inr ⟨b, o, rfl, hlt, fun k hk => ((((Below.refl w.heap.size w).alloc (Nat.le_refl _) _).cell (p := ⟨b, o + k, none⟩) hlt).trans (hc k hk))⟩
  · rw [World.cell?_alloc_at _ _ _ _ rfl]; rfl
  · rw [World.cell?_alloc_at _ _ _ _ rfl]; rfl
  · exact World.frozen?_alloc_at _ _ _ _ rfl

set_option maxHeartbeats 800000 in
theorem zznumber_any (a : Option Addr) (n c p : Nat) (S : Nat → Int) (w : World) (h : Byts w a n c S) (hp : p ≤ n) (hn : n ≤ 16777216) :
    Calls Try.prog 7 #[.slice a n c, .int .i64 p] w fun e w' => ∃ (ok : Bool) (q : Nat), e = .returned (.tuple #[.bool ok, .int .i64 q]) ∧ numP (tl S n p) = (ok, tl S n q) ∧ q ≤ n ∧ Below w.heap.size w w' := by
  go_enter Try.func7, Try.ntmps7
  go_wp2_with fail
  refine (number_any (rs_new h hp hn _ _)).mono ?_
  rintro e w1 ⟨ok, q, rfl, hT, hr, hb⟩
  have q1 := hr.p1
  have HT : Hid _ := hT
  clear hT
  have hB : Below w.heap.size w w1 := ((Below.refl w.heap.size w).alloc (Nat.le_refl _) _).trans hb
  go_wp2
  go_quiet (fail)
  go_wp2
  go_ret2
  exact ⟨ok, q, rfl, HT.out, hr.hp, below_drewN hB _⟩
end Go.Proofs.Qxb6604447a
