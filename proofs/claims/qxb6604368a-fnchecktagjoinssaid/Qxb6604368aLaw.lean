/- The walk of FnCheckTagJoins (3). -/
import Derived.Test.Qxb6604368aWalkA
namespace Go.Proofs.Qxb6604368a
open Go.RowKit
set_option linter.unusedVariables false

theorem zztag_at {s t : ByteArray} (h : tagOf s = t) (w : World) (hs : s.size ≤ maxLen) : Calls Try.prog 5 #[.string s] w fun e w' => e = .returned (.string t) ∧ w' = w := by
  subst h; exact zztag_any s w hs

theorem clean_append (a b : ByteArray) : clean (a ++ b) = (clean a && clean b) := by
  unfold clean; rw [ByteArray.data_append, Array.toList_append, List.all_append]
theorem clean_empty {a : ByteArray} (h : a.size = 0) : clean a = true := by
  unfold clean
  have : a.data.toList = [] := List.length_eq_zero_iff.1 (by simpa using h)
  rw [this]; rfl

/-- The three kinds of a tag. -/
theorem kinds (a : ByteArray) : (a.size = 0 ∧ clean a = true) ∨ (a.size ≠ 0 ∧ clean a = true) ∨ (a.size ≠ 0 ∧ clean a = false) := by
  by_cases h : a.size = 0
  · exact .inl ⟨h, clean_empty h⟩
  · cases hc : clean a
    · exact .inr (.inr ⟨h, rfl⟩)
    · exact .inr (.inl ⟨h, rfl⟩)

theorem tag0 {a : ByteArray} (h : a.size = 0) : tagOf a = { data := #[105, 115, 32, 101, 109, 112, 116, 121] } := by unfold tagOf; rw [if_pos h]
theorem tag1 {a : ByteArray} (h : a.size ≠ 0) (hc : clean a = true) : tagOf a = { data := #[] } := by unfold tagOf; rw [if_neg h, hc]; rfl
theorem tag2 {a : ByteArray} (h : a.size ≠ 0) (hc : clean a = false) : tagOf a = { data := #[105, 115, 32, 110, 111, 116, 32, 65, 83, 67, 73, 73, 32, 108, 101, 116, 116, 101, 114, 115, 32, 97, 110, 100, 32, 100, 105, 103, 105, 116, 115] } := by
  unfold tagOf; rw [if_neg h, hc]; rfl
theorem tagH (a b : ByteArray) : tagOf (a ++ { data := #[45] } ++ b) = { data := #[105, 115, 32, 110, 111, 116, 32, 65, 83, 67, 73, 73, 32, 108, 101, 116, 116, 101, 114, 115, 32, 97, 110, 100, 32, 100, 105, 103, 105, 116, 115] } := by
  refine tag2 (by rw [ByteArray.size_append, ByteArray.size_append]; have : ({ data := #[45] } : ByteArray).size = 1 := rfl; omega) ?_
  rw [clean_append, clean_append]
  have : clean { data := #[45] } = false := by decide
  rw [this]; simp
theorem nil0 {s : ByteArray} (h : s.size = 0) : (s.toList == []) = true := by
  rw [ByteArray.toList_eq]
  have : s.data.toList = [] := List.length_eq_zero_iff.1 (by simpa using h)
  rw [this]; rfl
theorem nil1 {s : ByteArray} (h : s.size ≠ 0) : (s.toList == []) = false := by
  rw [ByteArray.toList_eq]
  cases hs : s.data.toList with
  | nil => exfalso; apply h; rw [← ByteArray.size_data, ← Array.length_toList, hs]; rfl
  | cons a b => rfl

set_option maxHeartbeats 800000 in
theorem bytes_yes (a b : ByteArray) (w : World) (hl : a.size + b.size ≤ 1048576) : Calls Try.prog 4 #[.string a, .string b] w fun e w' => e = .returned (.bool true) ∧ w' = w := by
  go_enter Try.func4, Try.ntmps4
  go_wp2
  go_ret
  exact ⟨rfl, rfl⟩
set_option maxHeartbeats 800000 in
theorem bytes_no (a b : ByteArray) (w : World) (hl : ¬ a.size + b.size ≤ 1048576) : Calls Try.prog 4 #[.string a, .string b] w fun e w' => e = .returned (.bool false) ∧ w' = w := by
  go_enter Try.func4, Try.ntmps4
  go_wp2
  all_goals (go_ret; exact ⟨rfl, rfl⟩)

set_option maxHeartbeats 2000000 in
theorem law_walk (a b : ByteArray) (ha : a.size ≤ maxLen) (hb : b.size ≤ maxLen) (w : World) :
    Calls Try.prog 3 #[.string a, .string b] w fun e w' => e = .returned (.bool true) ∧ Grown w w' := by
  by_cases hl : a.size + b.size ≤ 1048576
  · have l1 : (a.size : Int) + (b.size : Int) ≤ 1048576 := by omega
    have hab : (a ++ b).size = a.size + b.size := ByteArray.size_append
    have hca := clean_append a b
    have TH : Hid (tagOf (a ++ { data := #[45] } ++ b) = _) := tagH a b
    have m1 : (a ++ b).size ≤ maxLen := by unfold maxLen; omega
    have m2 : (a ++ { data := #[45] } ++ b).size ≤ maxLen := by rw [ByteArray.size_append, ByteArray.size_append]; have : ({ data := #[45] } : ByteArray).size = 1 := rfl; unfold maxLen; omega
    rcases kinds a with ⟨ka, ca⟩ | ⟨ka, ca⟩ | ⟨ka, ca⟩
    · have TA : Hid (tagOf a = _) := tag0 ka
      have na := nil0 ka
      rcases kinds b with ⟨kb, cb⟩ | ⟨kb, cb⟩ | ⟨kb, cb⟩
      · have TB : Hid (tagOf b = _) := tag0 kb
        have TC : Hid (tagOf (a ++ b) = _) := tag0 (by omega)
        have nb := nil0 kb
        clear ka kb ca cb hab hca
        go_enter Try.func3, Try.ntmps3
        go_wp2_with fail
        refine (bytes_yes a b w hl).mono ?_
        rintro e w1 ⟨rfl, rfl⟩
        go_wp2_with fail
        refine (zztag_at TA.out _ ha).mono ?_
        rintro e w1 ⟨rfl, rfl⟩
        go_wp2_with fail
        refine (zztag_at TB.out _ hb).mono ?_
        rintro e w1 ⟨rfl, rfl⟩
        go_wp2_with fail
        refine (zztag_at TC.out _ m1).mono ?_
        rintro e w1 ⟨rfl, rfl⟩
        go_wp2_with fail
        refine (zztag_at TH.out _ m2).mono ?_
        rintro e w1 ⟨rfl, rfl⟩
        go_wp2
        go_ret
        exact ⟨rfl, Grown.refl _⟩
      · have TB : Hid (tagOf b = _) := tag1 kb cb
        have TC : Hid (tagOf (a ++ b) = _) := tag1 (by omega) (by rw [hca, ca, cb]; rfl)
        have nb := nil1 kb
        clear ka kb ca cb hab hca
        go_enter Try.func3, Try.ntmps3
        go_wp2_with fail
        refine (bytes_yes a b w hl).mono ?_
        rintro e w1 ⟨rfl, rfl⟩
        go_wp2_with fail
        refine (zztag_at TA.out _ ha).mono ?_
        rintro e w1 ⟨rfl, rfl⟩
        go_wp2_with fail
        refine (zztag_at TB.out _ hb).mono ?_
        rintro e w1 ⟨rfl, rfl⟩
        go_wp2_with fail
        refine (zztag_at TC.out _ m1).mono ?_
        rintro e w1 ⟨rfl, rfl⟩
        go_wp2_with fail
        refine (zztag_at TH.out _ m2).mono ?_
        rintro e w1 ⟨rfl, rfl⟩
        go_wp2
        go_ret
        exact ⟨rfl, Grown.refl _⟩
      · have TB : Hid (tagOf b = _) := tag2 kb cb
        have TC : Hid (tagOf (a ++ b) = _) := tag2 (by omega) (by rw [hca, ca, cb]; rfl)
        have nb := nil1 kb
        clear ka kb ca cb hab hca
        go_enter Try.func3, Try.ntmps3
        go_wp2_with fail
        refine (bytes_yes a b w hl).mono ?_
        rintro e w1 ⟨rfl, rfl⟩
        go_wp2_with fail
        refine (zztag_at TA.out _ ha).mono ?_
        rintro e w1 ⟨rfl, rfl⟩
        go_wp2_with fail
        refine (zztag_at TB.out _ hb).mono ?_
        rintro e w1 ⟨rfl, rfl⟩
        go_wp2_with fail
        refine (zztag_at TC.out _ m1).mono ?_
        rintro e w1 ⟨rfl, rfl⟩
        go_wp2_with fail
        refine (zztag_at TH.out _ m2).mono ?_
        rintro e w1 ⟨rfl, rfl⟩
        go_wp2
        go_ret
        exact ⟨rfl, Grown.refl _⟩
    · have TA : Hid (tagOf a = _) := tag1 ka ca
      have na := nil1 ka
      rcases kinds b with ⟨kb, cb⟩ | ⟨kb, cb⟩ | ⟨kb, cb⟩
      · have TB : Hid (tagOf b = _) := tag0 kb
        have TC : Hid (tagOf (a ++ b) = _) := tag1 (by omega) (by rw [hca, ca, cb]; rfl)
        have nb := nil0 kb
        clear ka kb ca cb hab hca
        go_enter Try.func3, Try.ntmps3
        go_wp2_with fail
        refine (bytes_yes a b w hl).mono ?_
        rintro e w1 ⟨rfl, rfl⟩
        go_wp2_with fail
        refine (zztag_at TA.out _ ha).mono ?_
        rintro e w1 ⟨rfl, rfl⟩
        go_wp2_with fail
        refine (zztag_at TB.out _ hb).mono ?_
        rintro e w1 ⟨rfl, rfl⟩
        go_wp2_with fail
        refine (zztag_at TC.out _ m1).mono ?_
        rintro e w1 ⟨rfl, rfl⟩
        go_wp2_with fail
        refine (zztag_at TH.out _ m2).mono ?_
        rintro e w1 ⟨rfl, rfl⟩
        go_wp2
        go_ret
        exact ⟨rfl, Grown.refl _⟩
      · have TB : Hid (tagOf b = _) := tag1 kb cb
        have TC : Hid (tagOf (a ++ b) = _) := tag1 (by omega) (by rw [hca, ca, cb]; rfl)
        have nb := nil1 kb
        clear ka kb ca cb hab hca
        go_enter Try.func3, Try.ntmps3
        go_wp2_with fail
        refine (bytes_yes a b w hl).mono ?_
        rintro e w1 ⟨rfl, rfl⟩
        go_wp2_with fail
        refine (zztag_at TA.out _ ha).mono ?_
        rintro e w1 ⟨rfl, rfl⟩
        go_wp2_with fail
        refine (zztag_at TB.out _ hb).mono ?_
        rintro e w1 ⟨rfl, rfl⟩
        go_wp2_with fail
        refine (zztag_at TC.out _ m1).mono ?_
        rintro e w1 ⟨rfl, rfl⟩
        go_wp2_with fail
        refine (zztag_at TH.out _ m2).mono ?_
        rintro e w1 ⟨rfl, rfl⟩
        go_wp2
        go_ret
        exact ⟨rfl, Grown.refl _⟩
      · have TB : Hid (tagOf b = _) := tag2 kb cb
        have TC : Hid (tagOf (a ++ b) = _) := tag2 (by omega) (by rw [hca, ca, cb]; rfl)
        have nb := nil1 kb
        clear ka kb ca cb hab hca
        go_enter Try.func3, Try.ntmps3
        go_wp2_with fail
        refine (bytes_yes a b w hl).mono ?_
        rintro e w1 ⟨rfl, rfl⟩
        go_wp2_with fail
        refine (zztag_at TA.out _ ha).mono ?_
        rintro e w1 ⟨rfl, rfl⟩
        go_wp2_with fail
        refine (zztag_at TB.out _ hb).mono ?_
        rintro e w1 ⟨rfl, rfl⟩
        go_wp2_with fail
        refine (zztag_at TC.out _ m1).mono ?_
        rintro e w1 ⟨rfl, rfl⟩
        go_wp2_with fail
        refine (zztag_at TH.out _ m2).mono ?_
        rintro e w1 ⟨rfl, rfl⟩
        go_wp2
        go_ret
        exact ⟨rfl, Grown.refl _⟩
    · have TA : Hid (tagOf a = _) := tag2 ka ca
      have na := nil1 ka
      rcases kinds b with ⟨kb, cb⟩ | ⟨kb, cb⟩ | ⟨kb, cb⟩
      · have TB : Hid (tagOf b = _) := tag0 kb
        have TC : Hid (tagOf (a ++ b) = _) := tag2 (by omega) (by rw [hca, ca, cb]; rfl)
        have nb := nil0 kb
        clear ka kb ca cb hab hca
        go_enter Try.func3, Try.ntmps3
        go_wp2_with fail
        refine (bytes_yes a b w hl).mono ?_
        rintro e w1 ⟨rfl, rfl⟩
        go_wp2_with fail
        refine (zztag_at TA.out _ ha).mono ?_
        rintro e w1 ⟨rfl, rfl⟩
        go_wp2_with fail
        refine (zztag_at TB.out _ hb).mono ?_
        rintro e w1 ⟨rfl, rfl⟩
        go_wp2_with fail
        refine (zztag_at TC.out _ m1).mono ?_
        rintro e w1 ⟨rfl, rfl⟩
        go_wp2_with fail
        refine (zztag_at TH.out _ m2).mono ?_
        rintro e w1 ⟨rfl, rfl⟩
        go_wp2
        go_ret
        exact ⟨rfl, Grown.refl _⟩
      · have TB : Hid (tagOf b = _) := tag1 kb cb
        have TC : Hid (tagOf (a ++ b) = _) := tag2 (by omega) (by rw [hca, ca, cb]; rfl)
        have nb := nil1 kb
        clear ka kb ca cb hab hca
        go_enter Try.func3, Try.ntmps3
        go_wp2_with fail
        refine (bytes_yes a b w hl).mono ?_
        rintro e w1 ⟨rfl, rfl⟩
        go_wp2_with fail
        refine (zztag_at TA.out _ ha).mono ?_
        rintro e w1 ⟨rfl, rfl⟩
        go_wp2_with fail
        refine (zztag_at TB.out _ hb).mono ?_
        rintro e w1 ⟨rfl, rfl⟩
        go_wp2_with fail
        refine (zztag_at TC.out _ m1).mono ?_
        rintro e w1 ⟨rfl, rfl⟩
        go_wp2_with fail
        refine (zztag_at TH.out _ m2).mono ?_
        rintro e w1 ⟨rfl, rfl⟩
        go_wp2
        go_ret
        exact ⟨rfl, Grown.refl _⟩
      · have TB : Hid (tagOf b = _) := tag2 kb cb
        have TC : Hid (tagOf (a ++ b) = _) := tag2 (by omega) (by rw [hca, ca, cb]; rfl)
        have nb := nil1 kb
        clear ka kb ca cb hab hca
        go_enter Try.func3, Try.ntmps3
        go_wp2_with fail
        refine (bytes_yes a b w hl).mono ?_
        rintro e w1 ⟨rfl, rfl⟩
        go_wp2_with fail
        refine (zztag_at TA.out _ ha).mono ?_
        rintro e w1 ⟨rfl, rfl⟩
        go_wp2_with fail
        refine (zztag_at TB.out _ hb).mono ?_
        rintro e w1 ⟨rfl, rfl⟩
        go_wp2_with fail
        refine (zztag_at TC.out _ m1).mono ?_
        rintro e w1 ⟨rfl, rfl⟩
        go_wp2_with fail
        refine (zztag_at TH.out _ m2).mono ?_
        rintro e w1 ⟨rfl, rfl⟩
        go_wp2
        go_ret
        exact ⟨rfl, Grown.refl _⟩
  · go_enter Try.func3, Try.ntmps3
    go_wp2_with fail
    refine (bytes_no a b w hl).mono ?_
    rintro e w1 ⟨rfl, rfl⟩
    go_wp2
    go_ret
    exact ⟨rfl, Grown.refl _⟩
end Go.Proofs.Qxb6604368a
