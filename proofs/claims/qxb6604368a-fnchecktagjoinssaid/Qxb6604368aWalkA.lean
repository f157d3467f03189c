/- checkTag (6), ZZcheckTag (5), the bound (4). -/
import Derived.Test.Qxb6604368aProg
import Derived.WalkKit
namespace Go.Proofs.Qxb6604368a
open Go.RowKit
set_option linter.unusedVariables false

/-- An ASCII letter or digit. -/
def alnum (c : UInt8) : Bool := decide ((48 ≤ c.toNat ∧ c.toNat ≤ 57) ∨ (97 ≤ c.toNat ∧ c.toNat ≤ 122) ∨ (65 ≤ c.toNat ∧ c.toNat ≤ 90))
def clean (s : ByteArray) : Bool := s.data.toList.all alnum

theorem take_snoc (s : ByteArray) (k : Nat) (h : k < s.size) : s.data.toList.take (k + 1) = s.data.toList.take k ++ [s[k]] := by
  rw [List.take_succ_eq_append_getElem (by simpa using h)]; rfl
theorem all_snoc {s : ByteArray} {k : Nat} (h : k < s.size) (hk : (s.data.toList.take k).all alnum = true) (hc : alnum s[k] = true) : (s.data.toList.take (k + 1)).all alnum = true := by
  rw [take_snoc s k h, List.all_append, hk]; simp [hc]
theorem not_clean {s : ByteArray} {k : Nat} (h : k < s.size) (hc : alnum s[k] = false) : clean s = false := by
  unfold clean
  rw [List.all_eq_false]
  exact ⟨s[k], Array.getElem_mem_toList (by simpa using h), by simp [hc]⟩

/-- What checkTag answers. -/
def tagOf (s : ByteArray) : ByteArray :=
  if s.size = 0 then { data := #[105, 115, 32, 101, 109, 112, 116, 121] }
  else if clean s then { data := #[] } else { data := #[105, 115, 32, 110, 111, 116, 32, 65, 83, 67, 73, 73, 32, 108, 101, 116, 116, 101, 114, 115, 32, 97, 110, 100, 32, 100, 105, 103, 105, 116, 115] }

theorem tagOf_bad {s : ByteArray} {k : Nat} (h : k < s.size) (hc : alnum s[k] = false) : { data := #[105, 115, 32, 110, 111, 116, 32, 65, 83, 67, 73, 73, 32, 108, 101, 116, 116, 101, 114, 115, 32, 97, 110, 100, 32, 100, 105, 103, 105, 116, 115] } = tagOf s := by
  unfold tagOf
  rw [if_neg (by omega), not_clean h hc]; rfl
theorem tagOf_good {s : ByteArray} {k : Nat} (h : ¬ k < s.size) (h0 : s.size ≠ 0) (hc : (s.data.toList.take k).all alnum = true) : { data := #[] } = tagOf s := by
  rw [List.take_of_length_le (by simp; omega)] at hc
  have : clean s = true := hc
  unfold tagOf
  rw [if_neg h0, this]; rfl
theorem ret_string {a b : ByteArray} (h : a = b) : Ending.returned (.string a) = .returned (.string b) := by rw [h]

theorem alnum_iff (c : UInt8) : alnum c = true ↔ ((48 ≤ c.toNat ∧ c.toNat ≤ 57) ∨ (97 ≤ c.toNat ∧ c.toNat ≤ 122) ∨ (65 ≤ c.toNat ∧ c.toNat ≤ 90)) := by simp [alnum]

theorem ranges {c : UInt8} (h : (48 ≤ c.toNat ∧ c.toNat ≤ 57) ∨ (97 ≤ c.toNat ∧ c.toNat ≤ 122) ∨ (65 ≤ c.toNat ∧ c.toNat ≤ 90)) :
    ((48 : Int) ≤ c.toNat ∧ (c.toNat : Int) ≤ 57) ∨ ((97 : Int) ≤ c.toNat ∧ (c.toNat : Int) ≤ 122) ∨ ((65 : Int) ≤ c.toNat ∧ (c.toNat : Int) ≤ 90) := by omega

theorem gaps {c : UInt8} (h : ¬ ((48 ≤ c.toNat ∧ c.toNat ≤ 57) ∨ (97 ≤ c.toNat ∧ c.toNat ≤ 122) ∨ (65 ≤ c.toNat ∧ c.toNat ≤ 90))) :
    (c.toNat : Int) < 48 ∨ ((57 : Int) < c.toNat ∧ (c.toNat : Int) < 65) ∨ ((90 : Int) < c.toNat ∧ (c.toNat : Int) < 97) ∨ (122 : Int) < c.toNat := by omega

set_option maxHeartbeats 800000 in
theorem tag_walk (s : ByteArray) (w : World) (hs : s.size ≤ maxLen) (h0 : s.size ≠ 0) :
    Calls Try.prog 6 #[.string s] w fun e w' => e = .returned (.string (tagOf s)) ∧ w' = w := by
  unfold maxLen at hs
  have hne : (s.toList == []) = false := by
    rw [ByteArray.toList_eq]
    cases h : s.data.toList with
    | nil => exfalso; apply h0; rw [← ByteArray.size_data, ← Array.length_toList, h]; rfl
    | cons a b => rfl
  go_enter Try.func6, Try.ntmps6
  go_wp2
  go_loop [3] (fun i => ∃ k : Nat, k ≤ s.size ∧ i = .int .i64 k ∧ (s.data.toList.take k).all alnum = true) (fun i => s.size - (intOf i).toNat)
  case atStart => exact ⟨0, Nat.zero_le _, rfl, rfl⟩
  case round =>
    obtain ⟨k, hk, rfl, hall⟩ := hrel
    have HA : Hid ((s.data.toList.take k).all alnum = true) := hall
    clear hall hne
    by_cases hlt : k < s.size
    · cases hc : alnum s[k] with
      | true =>
        have hi := ranges ((alnum_iff _).1 hc)
        have HC : Hid (alnum s[k] = true) := hc
        clear hc
        rcases hi with ⟨x1, x2⟩ | ⟨x1, x2⟩ | ⟨x1, x2⟩
        all_goals
          go_wp2
          go_round
          case rel => exact ⟨k + 1, by omega, by go_num, all_snoc hlt HA.out HC.out⟩
          case measure => simp [intOf]; omega
      | false =>
        have hi : ¬ _ := fun h => by rw [(alnum_iff _).2 h] at hc; cases hc
        have hr := gaps hi
        have HC : Hid (alnum s[k] = false) := hc
        clear hc hi
        rcases hr with x1 | ⟨x1, x2⟩ | ⟨x1, x2⟩ | x1
        · go_wp2
          go_ret
          exact ⟨ret_string (tagOf_bad hlt HC.out), rfl⟩
        · have e1 : decide ((s[k].toNat : Int) ≤ 57) = false := decide_eq_false (by omega)
          go_wp2
          go_ret
          exact ⟨ret_string (tagOf_bad hlt HC.out), rfl⟩
        · have e1 : decide ((s[k].toNat : Int) ≤ 57) = false := decide_eq_false (by omega)
          have e2 : decide ((s[k].toNat : Int) ≤ 90) = false := decide_eq_false (by omega)
          go_wp2
          go_ret
          exact ⟨ret_string (tagOf_bad hlt HC.out), rfl⟩
        · have e1 : decide ((s[k].toNat : Int) ≤ 57) = false := decide_eq_false (by omega)
          have e2 : decide ((s[k].toNat : Int) ≤ 90) = false := decide_eq_false (by omega)
          have e3 : decide ((s[k].toNat : Int) ≤ 122) = false := decide_eq_false (by omega)
          go_wp2
          go_ret
          exact ⟨ret_string (tagOf_bad hlt HC.out), rfl⟩
    · go_wp2
      go_ret
      exact ⟨ret_string (tagOf_good hlt h0 HA.out), rfl⟩

set_option maxHeartbeats 800000 in
theorem tag_empty (s : ByteArray) (w : World) (h0 : s.size = 0) :
    Calls Try.prog 6 #[.string s] w fun e w' => e = .returned (.string { data := #[105, 115, 32, 101, 109, 112, 116, 121] }) ∧ w' = w := by
  have hne : (s.toList == []) = true := by
    rw [ByteArray.toList_eq]
    cases h : s.data.toList with
    | nil => rfl
    | cons a b =>
      have : s.data.toList.length = 0 := by simpa using h0
      rw [h] at this; cases this
  clear h0
  go_enter Try.func6, Try.ntmps6
  go_wp2
  go_ret
  exact ⟨rfl, rfl⟩

theorem tag_any (s : ByteArray) (w : World) (hs : s.size ≤ maxLen) : Calls Try.prog 6 #[.string s] w fun e w' => e = .returned (.string (tagOf s)) ∧ w' = w := by
  by_cases h0 : s.size = 0
  · unfold tagOf; rw [if_pos h0]; exact tag_empty s w h0
  · exact tag_walk s w hs h0

set_option maxHeartbeats 800000 in
theorem zztag_any (s : ByteArray) (w : World) (hs : s.size ≤ maxLen) : Calls Try.prog 5 #[.string s] w fun e w' => e = .returned (.string (tagOf s)) ∧ w' = w := by
  go_enter Try.func5, Try.ntmps5
  go_wp2_with fail
  refine (tag_any s w hs).mono ?_
  rintro e w1 ⟨rfl, rfl⟩
  go_wp2
  go_ret
  exact ⟨rfl, rfl⟩
end Go.Proofs.Qxb6604368a
