/- zzCoveredB1 (17) and the walk of FnShiftsExactly (5). -/
import Derived.Test.Qxb6603633aLawF
namespace Go.Proofs.Qxb6603633a
open Go.RowKit
set_option linter.unusedVariables false
open Plain

theorem cov_two {f l m : ByteArray} {r1 r2 : Bool} (h1 : leS f (m.extract 0 f.size) = r1) (h2 : leS (m.extract 0 f.size) l = r2) : covS f l m = (r1 && r2) := by
  rw [← cov_eq, h1, h2]

theorem covN_hit {k n : Nat} {F L : Nat → ByteArray} {m : ByteArray} (hk : k < n) (h : covS (F k) (L k) m = true) : covN (Fl F) (Fl L) m.data.toList n = true := covN_true hk h

set_option maxHeartbeats 800000 in
theorem covered_any (a a' : Option Addr) (n c c' : Nat) (F L : Nat → ByteArray) (m : ByteArray) (w : World) (hn : n ≤ 65536) (hm : m.size ≤ maxLen) (hF : Strs w a n c F) (hL : Strs w a' n c' L) (hsz : ∀ k, k < n → (F k).size ≤ m.size) :
    Calls Try.prog 17 #[.slice a n c, .slice a' n c', .string m] w fun e w' => e = .returned (.bool (covN (Fl F) (Fl L) m.data.toList n)) ∧ ∃ q, w' = w.drewN q := by
  go_enter Try.func17, Try.ntmps17
  go_wp2
  go_loopw [7] (fun i wr => ∃ k q : Nat, k ≤ n ∧ i = .int .i64 k ∧ covN (Fl F) (Fl L) m.data.toList k = false ∧ wr = w.drewN q) (fun i _ => n - (intOf i).toNat)
  case atStart => exact ⟨0, 0, Nat.zero_le _, rfl, rfl, rfl⟩
  case round =>
    obtain ⟨k, q, hk, rfl, hcov, rfl⟩ := hrel
    by_cases hlt : k < n
    · obtain ⟨b, o, rfl, c1⟩ := hF.at k hlt
      obtain ⟨b', o', rfl, c2⟩ := hL.at k hlt
      have fit := hsz k hlt
      have hm1 : (F k).size ≤ maxLen := Nat.le_trans fit hm
      have hm2 : (m.extract 0 (F k).size).size ≤ maxLen := by simp; omega
      have HC : Hid (covN (Fl F) (Fl L) m.data.toList k = false) := hcov
      clear hcov hF hL hsz
      cases h1 : leS (F k) (m.extract 0 (F k).size) with
      | false =>
        have H1 : Hid (leS (F k) (m.extract 0 (F k).size) = false) := h1
        clear h1
        go_wp2_with fail
        refine (less_at H1.out _ hm1).mono ?_
        rintro e w1 ⟨rfl, q1, rfl⟩
        go_wp2
        go_roundw
        case rel => exact ⟨k + 1, q + q1, by omega, by go_num, cov_succ HC.out (by rw [cov_two H1.out rfl]; rfl), rfl⟩
        case measure => simp [intOf]; omega
      | true =>
        have H1 : Hid (leS (F k) (m.extract 0 (F k).size) = true) := h1
        clear h1
        cases h2 : leS (m.extract 0 (F k).size) (L k) with
        | false =>
          have H2 : Hid (leS (m.extract 0 (F k).size) (L k) = false) := h2
          clear h2
          go_wp2_with fail
          refine (less_at H1.out _ hm1).mono ?_
          rintro e w1 ⟨rfl, q1, rfl⟩
          go_wp2_with fail
          refine (less_at H2.out _ hm2).mono ?_
          rintro e w1 ⟨rfl, q2, rfl⟩
          go_wp2
          go_roundw
          case rel => exact ⟨k + 1, q + q1 + q2, by omega, by go_num, cov_succ HC.out (by rw [cov_two H1.out H2.out]; rfl), rfl⟩
          case measure => simp [intOf]; omega
        | true =>
          have H2 : Hid (leS (m.extract 0 (F k).size) (L k) = true) := h2
          clear h2
          go_wp2_with fail
          refine (less_at H1.out _ hm1).mono ?_
          rintro e w1 ⟨rfl, q1, rfl⟩
          go_wp2_with fail
          refine (less_at H2.out _ hm2).mono ?_
          rintro e w1 ⟨rfl, q2, rfl⟩
          go_wp2
          go_ret
          exact ⟨ret_bool (covN_hit hlt (cov_two H1.out H2.out)).symm, _, rfl⟩
    · obtain rfl : k = n := by omega
      go_wp2
      go_ret
      exact ⟨ret_bool hcov.symm, _, rfl⟩

theorem exact_yes (v : Nat) (F L : Nat → ByteArray) (n : Nat) (gd m : ByteArray) (h1 : v ≤ gd.size) (h2 : v ≤ m.size) (h : cpS gd m < v) : shS v F L n gd m = !covN (Fl F) (Fl L) m.data.toList n := by
  unfold shS shB
  rw [diff_iff v _ _ (by simpa using h1) (by simpa using h2)]
  have : decide (cpl gd.data.toList m.data.toList < v) = true := decide_eq_true h
  rw [this, Bool.true_and]
theorem exact_no (v : Nat) (F L : Nat → ByteArray) (n : Nat) (gd m : ByteArray) (h1 : v ≤ gd.size) (h2 : v ≤ m.size) (h : ¬ cpS gd m < v) : shS v F L n gd m = false := by
  unfold shS shB
  rw [diff_iff v _ _ (by simpa using h1) (by simpa using h2)]
  have : decide (cpl gd.data.toList m.data.toList < v) = false := decide_eq_false h
  rw [this, Bool.false_and]

set_option maxRecDepth 100000 in
set_option maxHeartbeats 4000000 in
theorem law5_walk (lv : Int) (a a' : Option Addr) (n n' c c' : Nat) (F L : Nat → ByteArray) (gd m : ByteArray) (w : World) (hF : Strs w a n c F) (hL : Strs w a' n' c' L) (hz : a = none → n = 0) (hz' : a' = none → n' = 0) (hn : n ≤ maxLen) (hn' : n' ≤ maxLen) (hgd : gd.size ≤ maxLen) (hm : m.size ≤ maxLen) :
    Calls Try.prog 5 #[.int .i64 lv, .slice a n c, .slice a' n' c', .string gd, .string m] w fun e w' => e = .returned (.bool true) ∧ Below w.heap.size w w' := by
  go_enter Try.func5, Try.ntmps5
  go_wp2_with fail
  refine (bytes13_any lv a a' n n' c c' F L gd m w hF hL hn hn' hgd hm).mono ?_
  rintro e w1 ⟨r, rfl, rfl⟩
  cases r with
  | false =>
    go_wp2
    go_ret
    exact ⟨rfl, Below.refl _ _⟩
  | true =>
    by_cases hb : gd.size ≤ 65536 ∧ m.size ≤ 65536 ∧ n ≤ 65536 ∧ n' ≤ 65536
    · obtain ⟨b1, b2, b3, b4⟩ := hb
      go_wp2_with fail
      refine (sizeOK_any a a' n n' c c' F L gd m w1 hF hL hn hn' b1 b2).mono ?_
      rintro e w1 ⟨r, rfl, rfl⟩
      cases r with
      | false =>
        go_wp2
        go_ret
        exact ⟨rfl, Below.refl _ _⟩
      | true =>
        by_cases hnn : n = n'
        · subst hnn
          by_cases hl : 0 ≤ lv ∧ lv ≤ gd.size ∧ lv ≤ m.size
          · obtain ⟨hl0, hl1, hl2⟩ := hl
            obtain ⟨v, rfl⟩ := Int.eq_ofNat_of_zero_le hl0
            go_wp2
            go_loop [11] (fun i => ∃ k : Nat, k ≤ n ∧ i = .int .i64 k ∧ ∀ j, j < k → (F j).size ≤ m.size) (fun i => n - (intOf i).toNat)
            case atStart => exact ⟨0, Nat.zero_le _, rfl, fun j hj => by omega⟩
            case round =>
              obtain ⟨k, hk, rfl, hsz⟩ := hrel
              by_cases hlt : k < n
              · obtain ⟨b, o, rfl, c1⟩ := hF.at k hlt
                go_wp2
                · go_ret
                  exact ⟨rfl, Below.refl _ _⟩
                · have hle : (F k).size ≤ m.size := by omega
                  go_round
                  case rel => exact ⟨k + 1, by omega, by go_num, upto hsz hle⟩
                  case measure => simp [intOf]; omega
              · obtain rfl : k = n := by omega
                clear hlt hk
                go_wp2_with fail
                refine (clone_any a k c F w1 (by omega) hz hF).mono ?_
                rintro e w2 ⟨a2, c2, rfl, hF2, hB2⟩
                go_wp2_with fail
                refine (clone_any a' k c' L w2 (by omega) hz' (hL.below hB2)).mono ?_
                rintro e w3 ⟨a3, c3, rfl, hL3, hB3⟩
                replace hF2 := hF2.below hB3
                replace hB3 : Below w1.heap.size w1 w3 := hB2.trans (hB3.mono hB2.size)
                clear hF hL hz hz' hB2
                go_wp2_with fail
                refine (zzshifts_any v a2 a3 k c2 c3 F L gd m w3 (by omega) (by omega) hgd hm (by omega) hF2 hL3 hsz).mono ?_
                rintro e w4 ⟨he, hB4⟩
                replace hF2 := hF2.below hB4
                replace hL3 := hL3.below hB4
                replace hB4 : Below w1.heap.size w1 w4 := hB3.trans (hB4.mono hB3.size)
                clear hB3
                by_cases hcp : cpS gd m < v
                · rw [exact_yes v F L k gd m (by omega) (by omega) hcp] at he
                  subst he
                  go_wp2_with fail
                  refine (common_any gd m w4 hgd).mono ?_
                  rintro e w5 ⟨rfl, nq, rfl⟩
                  go_wp2_with fail
                  refine (covered_any a2 a3 k c2 c3 F L m (w4.drewN nq) (by omega) hm (hF2.drewN nq) (hL3.drewN nq) hsz).mono ?_
                  rintro e w6 ⟨rfl, nq', rfl⟩
                  go_wp2
                  go_ret
                  exact ⟨ret_bool (by simp), below_drewN hB4 _⟩
                · rw [exact_no v F L k gd m (by omega) (by omega) hcp] at he
                  subst he
                  go_wp2_with fail
                  refine (common_any gd m w4 hgd).mono ?_
                  rintro e w5 ⟨rfl, nq, rfl⟩
                  go_wp2
                  go_ret
                  exact ⟨rfl, below_drewN hB4 nq⟩
          · go_wp2
            all_goals (go_ret; exact ⟨rfl, Below.refl _ _⟩)
        · have hnb : ((n : Int) != (n' : Int)) = true := by rw [bne_iff_ne]; omega
          go_wp2
          go_ret
          exact ⟨rfl, Below.refl _ _⟩
    · go_wp2
      all_goals (go_ret; exact ⟨rfl, Below.refl _ _⟩)
end Go.Proofs.Qxb6603633a
