/- The walk of FnJoinedReadsOperandsWhileOperatorFollows (3). -/
import Derived.Test.Qxb6603633aJoinF
namespace Go.Proofs.Qxb6603633a
open Go.RowKit
set_option linter.unusedVariables false

theorem zpost_single {w : World} {n : Nat} {K : Nat → Int} {T : Nat → ByteArray} {op : Int} {e : Ending} {w' : World} (h : ZPost w n K T false op e w') :
    ∃ i, Follows n K op i ∧ Below w.heap.size w w' ∧
    ((2 * i = n ∧ e = .returned (.tuple #[.slice none 0 0, .int .i64 (n : Int), .bool true])) ∨
     (2 * i < n ∧ ¬ (2 * i + 1 < n ∧ K (2 * i + 1) = op) ∧ ∃ g cap J L, Hid (J = 2 * i + 1) ∧ Hid (L = i + 1) ∧ e = .returned (.tuple #[.slice (some ⟨g, 0, none⟩) L cap, .int .i64 (J : Int), .bool false]) ∧ Strs w' (some ⟨g, 0, none⟩) L cap (fun t => T (2 * t)))) := by
  obtain ⟨i, hf, hb, h1 | ⟨h1, h2, g, cap, he, hS⟩⟩ := h
  · exact ⟨i, hf, hb, .inl h1⟩
  · exact ⟨i, hf, hb, .inr ⟨h1, h2, g, cap, 2 * i + 1, i + 1, rfl, rfl, he, hS⟩⟩

set_option maxRecDepth 100000 in
set_option maxHeartbeats 4000000 in
theorem law3_walk (a a' : Option Addr) (n n' c c' : Nat) (K : Nat → Int) (T : Nat → ByteArray) (op : Int) (w : World) (hK : Ints w a n c K) (hT : Strs w a' n' c' T) (hz : a = none → n = 0) (hz' : a' = none → n' = 0) (hn : n ≤ maxLen) (hn' : n' ≤ maxLen) :
    Calls Try.prog 3 #[.slice a n c, .slice a' n' c', .int .i64 op] w fun e w' => e = .returned (.bool true) ∧ Below w.heap.size w w' := by
  go_enter Try.func3, Try.ntmps3
  go_wp2_with fail
  refine (bytes7_any a a' n n' c c' T op w hT hn hn').mono ?_
  rintro e w1 ⟨r, rfl, rfl⟩
  cases r with
  | false =>
    go_wp2
    go_ret
    exact ⟨rfl, Below.refl _ _⟩
  | true =>
    by_cases hb : n ≤ 65536 ∧ n' ≤ 65536
    · obtain ⟨b1, b2⟩ := hb
      go_wp2_with fail
      refine (tokenOK_any a a' n n' c c' T w1 hT b1 b2).mono ?_
      rintro e w1 ⟨r, rfl, rfl⟩
      cases r with
      | false =>
        go_wp2
        go_ret
        exact ⟨rfl, Below.refl _ _⟩
      | true =>
        by_cases hnn : n = n'
        · subst hnn
          go_wp2_with fail
          refine (cloneI_any a n c K w1 b1 hz hK).mono ?_
          rintro e w2 ⟨a2, c2, rfl, hK2, hB2⟩
          go_wp2_with fail
          refine (clone_any a' n c' T w2 b1 hz' (hT.below hB2)).mono ?_
          rintro e w3 ⟨a3, c3, rfl, hT3, hB3⟩
          replace hK2 := hK2.below hB3
          replace hB3 : Below w1.heap.size w1 w3 := hB2.trans (hB3.mono hB2.size)
          clear hK hT hz hz' hB2
          go_wp2_with fail
          refine (zzjoined_any a2 a3 n c2 c3 K T false op w3 b1 hK2 hT3).mono ?_
          intro e w4 hz4
          obtain ⟨i, hf, hB4, hcase⟩ := zpost_single hz4
          clear hz4
          replace hK2 := hK2.below hB4
          replace hT3 := hT3.below hB4
          replace hB4 : Below w1.heap.size w1 w4 := hB3.trans (hB4.mono hB3.size)
          clear hB3
          rcases hcase with ⟨h1, rfl⟩ | ⟨h1, h2, g, cap, J, L, HJ, HL, rfl, hS⟩
          · go_wp2
            go_loop [11] (fun x => ∃ j t : Nat, Hid (j = 2 * t + 1) ∧ 2 * t ≤ n ∧ x = .int .i64 j ∧ Follows n K op t) (fun x => n + 2 - (intOf x).toNat)
            case atStart => exact ⟨1, 0, rfl, Nat.zero_le _, rfl, fun t ht => by omega⟩
            case round =>
              obtain ⟨j, t, hj, htn, rfl, hft⟩ := hrel
              have hjn : j ≤ n + 1 := by have := hj.out; omega
              by_cases hst : j < n ∧ K j = op
              · obtain ⟨s1, s2⟩ := hst
                obtain ⟨b, o, rfl, hb, hc⟩ := hK2.at j s1
                rw [s2] at hc
                have hft' := hft.succ (by have := hj.out; omega) (by rw [← hj.out]; exact s2)
                have hj' : Hid (j + 2 = 2 * (t + 1) + 1) := by have := hj.out; show j + 2 = _; omega
                have he : (op == op) = true := by simp
                have htn' : 2 * (t + 1) ≤ n := by have := hj.out; omega
                clear hK2 hT3 hft s2 hf h1
                go_wp2
                go_round
                case rel => exact ⟨j + 2, t + 1, hj', htn', by go_num, hft'⟩
                case measure => simp [intOf]; omega
              · obtain rfl : t = i := Follows.unique hft hf (by rw [← hj.out]; exact hst) (by omega)
                have hgt : n < j := by have := hj.out; omega
                have e1 : ((n : Int) == (n : Int)) = true := by simp
                clear hK2 hT3
                go_wp2
                go_ret
                exact ⟨rfl, hB4⟩
          · go_wp2
            go_loop [11] (fun x => ∃ j t : Nat, Hid (j = 2 * t + 1) ∧ 2 * t ≤ n ∧ x = .int .i64 j ∧ Follows n K op t) (fun x => n + 2 - (intOf x).toNat)
            case atStart => exact ⟨1, 0, rfl, Nat.zero_le _, rfl, fun t ht => by omega⟩
            case round =>
              obtain ⟨j, t, hj, htn, rfl, hft⟩ := hrel
              have hjn : j ≤ n + 1 := by have := hj.out; omega
              by_cases hst : j < n ∧ K j = op
              · obtain ⟨s1, s2⟩ := hst
                obtain ⟨b, o, rfl, hb, hc⟩ := hK2.at j s1
                rw [s2] at hc
                have hft' := hft.succ (by have := hj.out; omega) (by rw [← hj.out]; exact s2)
                have hj' : Hid (j + 2 = 2 * (t + 1) + 1) := by have := hj.out; show j + 2 = _; omega
                have he : (op == op) = true := by simp
                have htn' : 2 * (t + 1) ≤ n := by have := hj.out; omega
                clear hK2 hT3 hft s2 hf h1 h2 hS
                go_wp2
                go_round
                case rel => exact ⟨j + 2, t + 1, hj', htn', by go_num, hft'⟩
                case measure => simp [intOf]; omega
              · obtain rfl : t = i := Follows.unique hft hf (by rw [← hj.out]; exact hst) h2
                obtain rfl : j = J := by have := hj.out; have := HJ.out; omega
                have hjn' : j ≤ n := by have := hj.out; omega
                have e1 : ((j : Int) == (j : Int)) = true := by simp
                have e2 : ((j : Int) + 1) / 2 = (L : Int) := by have := hj.out; have := HL.out; omega
                have e3 : ((L : Int) != (L : Int)) = false := by simp
                have hLn : 2 * L ≤ n + 1 := by have := hj.out; have := HL.out; omega
                have stop : ∀ q, q < L → 2 * q < n := by intro q hq; have := HL.out; omega
                have hkn : j < n → (K j == op) = false := by
                  intro h; rw [beq_eq_false_iff_ne]; exact fun e => hst ⟨h, e⟩
                have hKat := hK2.at j
                clear hK2 hft hf h2
                by_cases hjl : j < n
                · obtain ⟨b, o, rfl, hb, hc⟩ := hKat hjl
                  have hkn' := hkn hjl
                  clear hKat hkn hst
                  go_wp2
                  go_loopw [12] (fun x wr => ∃ q m : Nat, q ≤ L ∧ x = .int .i64 q ∧ wr = w4.drewN m) (fun x _ => L - (intOf x).toNat)
                  case atStart => exact ⟨0, 0, Nat.zero_le _, rfl, rfl⟩
                  case round =>
                    obtain ⟨q, m, hq, rfl, rfl⟩ := hrel
                    by_cases hql : q < L
                    · obtain ⟨b3, o3, rfl, cT⟩ := hT3.at (2 * q) (stop q hql)
                      obtain ⟨g', o', eg, cS⟩ := hS.at q hql
                      obtain ⟨rfl, rfl⟩ : g = g' ∧ 0 = o' := by simpa using eg
                      rw [Nat.zero_add] at cS
                      have d1 : (q : Int) < (L : Int) := by omega
                      have d2 : 2 * (q : Int) < (n : Int) := by have := stop q hql; omega
                      have e4 : ((T (2 * q)).toList == (T (2 * q)).toList) = true := by simp
                      clear eg hT3 hS stop
                      go_wp2
                      go_quiet (fail)
                      go_wp2
                      go_roundw
                      case rel => exact ⟨q + 1, _, by omega, by go_num, rfl⟩
                      case measure => simp [intOf]; omega
                    · go_wp2
                      go_ret
                      exact ⟨rfl, below_drewN hB4 _⟩
                · clear hKat hkn hst
                  go_wp2
                  go_loopw [12] (fun x wr => ∃ q m : Nat, q ≤ L ∧ x = .int .i64 q ∧ wr = w4.drewN m) (fun x _ => L - (intOf x).toNat)
                  case atStart => exact ⟨0, 0, Nat.zero_le _, rfl, rfl⟩
                  case round =>
                    obtain ⟨q, m, hq, rfl, rfl⟩ := hrel
                    by_cases hql : q < L
                    · obtain ⟨b3, o3, rfl, cT⟩ := hT3.at (2 * q) (stop q hql)
                      obtain ⟨g', o', eg, cS⟩ := hS.at q hql
                      obtain ⟨rfl, rfl⟩ : g = g' ∧ 0 = o' := by simpa using eg
                      rw [Nat.zero_add] at cS
                      have d1 : (q : Int) < (L : Int) := by omega
                      have d2 : 2 * (q : Int) < (n : Int) := by have := stop q hql; omega
                      have e4 : ((T (2 * q)).toList == (T (2 * q)).toList) = true := by simp
                      clear eg hT3 hS stop
                      go_wp2
                      go_quiet (fail)
                      go_wp2
                      go_roundw
                      case rel => exact ⟨q + 1, _, by omega, by go_num, rfl⟩
                      case measure => simp [intOf]; omega
                    · go_wp2
                      go_ret
                      exact ⟨rfl, below_drewN hB4 _⟩
        · have hnb : ((n : Int) != (n' : Int)) = true := by rw [bne_iff_ne]; omega
          go_wp2
          go_ret
          exact ⟨rfl, Below.refl _ _⟩
    · go_wp2
      all_goals (go_ret; exact ⟨rfl, Below.refl _ _⟩)
end Go.Proofs.Qxb6603633a
