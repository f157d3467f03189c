/- The walk of FnJoinedFlattensGroupsInPlace (4). -/
import Derived.Test.Qxb6603633aJoinG
namespace Go.Proofs.Qxb6603633a
open Go.RowKit
set_option linter.unusedVariables false

theorem zpost_pair {w : World} {n : Nat} {K : Nat → Int} {T : Nat → ByteArray} {op : Int} {e : Ending} {w' : World} (h : ZPost w n K T true op e w') :
    ∃ i, Follows n K op i ∧ Below w.heap.size w w' ∧
    ((2 * i = n ∧ e = .returned (.tuple #[.slice none 0 0, .int .i64 (n : Int), .bool true])) ∨
     (2 * i < n ∧ ¬ (2 * i + 1 < n ∧ K (2 * i + 1) = op) ∧ ∃ g cap J L, Hid (J = 2 * i + 1) ∧ Hid (L = 2 * i + 2) ∧ e = .returned (.tuple #[.slice (some ⟨g, 0, none⟩) L cap, .int .i64 (J : Int), .bool false]) ∧ Strs w' (some ⟨g, 0, none⟩) L cap (fun t => T (2 * (t / 2))))) := by
  obtain ⟨i, hf, hb, h1 | ⟨h1, h2, g, cap, he, hS⟩⟩ := h
  · exact ⟨i, hf, hb, .inl h1⟩
  · exact ⟨i, hf, hb, .inr ⟨h1, h2, g, cap, 2 * i + 1, 2 * i + 2, rfl, rfl, he, hS⟩⟩

set_option maxRecDepth 100000 in
set_option maxHeartbeats 4000000 in
theorem law4_walk (a a' : Option Addr) (n n' c c' : Nat) (K : Nat → Int) (T : Nat → ByteArray) (op : Int) (w : World) (hK : Ints w a n c K) (hT : Strs w a' n' c' T) (hz : a = none → n = 0) (hz' : a' = none → n' = 0) (hn : n ≤ maxLen) (hn' : n' ≤ maxLen) :
    Calls Try.prog 4 #[.slice a n c, .slice a' n' c', .int .i64 op] w fun e w' => e = .returned (.bool true) ∧ Below w.heap.size w w' := by
  go_enter Try.func4, Try.ntmps4
  go_wp2_with fail
  refine (bytes12_any a a' n n' c c' T op w hT hn hn').mono ?_
  rintro e w1 ⟨r, rfl, rfl⟩
  cases r with
  | false =>
    go_wp2
    go_ret
    exact ⟨rfl, Below.refl _ _⟩
  | true =>
    by_cases hb : n ≤ 65536 ∧ n' ≤ 65536
    · obtain ⟨b1, b2⟩ := hb
      go_wp2_with fail
      refine (tokenOK_any a a' n n' c c' T w1 hT b1 b2).mono ?_
      rintro e w1 ⟨r, rfl, rfl⟩
      cases r with
      | false =>
        go_wp2
        go_ret
        exact ⟨rfl, Below.refl _ _⟩
      | true =>
        by_cases hnn : n = n'
        · subst hnn
          go_wp2_with fail
          refine (cloneI_any a n c K w1 b1 hz hK).mono ?_
          rintro e w2 ⟨a2, c2, rfl, hK2, hB2⟩
          go_wp2_with fail
          refine (clone_any a' n c' T w2 b1 hz' (hT.below hB2)).mono ?_
          rintro e w3 ⟨a3, c3, rfl, hT3, hB3⟩
          replace hK2 := hK2.below hB3
          replace hB3 : Below w1.heap.size w1 w3 := hB2.trans (hB3.mono hB2.size)
          clear hK hT hz hz' hB2
          go_wp2_with fail
          refine (zzjoined_any a2 a3 n c2 c3 K T false op w3 b1 hK2 hT3).mono ?_
          intro e w4 hz4
          obtain ⟨i, hf, hB4, hcase⟩ := zpost_single hz4
          clear hz4
          replace hK2 := hK2.below hB4
          replace hT3 := hT3.below hB4
          replace hB4 : Below w1.heap.size w1 w4 := hB3.trans (hB4.mono hB3.size)
          clear hB3
          rcases hcase with ⟨h1, rfl⟩ | ⟨h1, h2, g, cap, J, L, HJ, HL, rfl, hS⟩
          · go_wp2_with fail
            refine (zzjoined_any a2 a3 n c2 c3 K T true op w4 b1 hK2 hT3).mono ?_
            intro e w5 hz5
            obtain ⟨i', hf', hB5, hcase⟩ := zpost_pair hz5
            clear hz5
            replace hB5 : Below w1.heap.size w1 w5 := hB4.trans (hB5.mono hB4.size)
            rcases hcase with ⟨h1', rfl⟩ | ⟨h1', h2', _⟩
            · have e1 : ((n : Int) == (n : Int)) = true := by simp
              have e2 : ((n : Int) != (n : Int)) = false := by simp
              clear hK2 hT3 hf hf'
              go_wp2
              go_ret
              exact ⟨rfl, hB5⟩
            · exfalso
              have := Follows.unique hf hf' (by omega) h2'
              omega
          · go_wp2_with fail
            refine (zzjoined_any a2 a3 n c2 c3 K T true op w4 b1 hK2 hT3).mono ?_
            intro e w5 hz5
            obtain ⟨i', hf', hB5, hcase⟩ := zpost_pair hz5
            clear hz5
            replace hS := hS.below hB5
            replace hB5 : Below w1.heap.size w1 w5 := hB4.trans (hB5.mono hB4.size)
            rcases hcase with ⟨h1', rfl⟩ | ⟨h1', h2', g2, cap2, J2, L2, HJ2, HL2, rfl, hS2⟩
            · exfalso
              have := Follows.unique hf hf' h2 (by omega)
              omega
            · obtain rfl : i = i' := Follows.unique hf hf' h2 h2'
              obtain rfl : J = J2 := by have := HJ.out; have := HJ2.out; omega
              have e1 : ((J : Int) != (J : Int)) = false := by simp
              have b3 : 1 ≤ L := by have := HL.out; omega
              have b4 : 1 ≤ J := by have := HJ.out; omega
              have b5 : L ≤ 65536 := by have := HL.out; omega
              have e2 : ((L2 : Int) != 2 * (L : Int)) = false := by rw [bne_eq_false_iff_eq]; have := HL.out; have := HL2.out; omega
              have hL2 : ∀ q, q < L → 2 * q + 1 < L2 := by intro q hq; have := HL.out; have := HL2.out; omega
              clear hK2 hT3 hf hf' h2 h2' hB4 h1 h1' HJ HJ2 HL HL2
              go_wp2
              go_loopw [13] (fun x wr => ∃ q m : Nat, q ≤ L ∧ x = .int .i64 q ∧ wr = w5.drewN m) (fun x _ => L - (intOf x).toNat)
              case atStart => exact ⟨0, 0, Nat.zero_le _, rfl, rfl⟩
              case round =>
                obtain ⟨q, m, hq, rfl, rfl⟩ := hrel
                by_cases hql : q < L
                · have hq2 := hL2 q hql
                  obtain ⟨g', o', eg, cS⟩ := hS.at q hql
                  obtain ⟨rfl, rfl⟩ : g = g' ∧ 0 = o' := by simpa using eg
                  obtain ⟨g3, o3, eg3, cA⟩ := hS2.at (2 * q) (by omega)
                  obtain ⟨rfl, rfl⟩ : g2 = g3 ∧ 0 = o3 := by simpa using eg3
                  obtain ⟨g4, o4, eg4, cB⟩ := hS2.at (2 * q + 1) (by omega)
                  obtain ⟨rfl, rfl⟩ : g2 = g4 ∧ 0 = o4 := by simpa using eg4
                  rw [Nat.zero_add] at cS cA cB
                  rw [show (2 * q) / 2 = q by omega] at cA
                  rw [show (2 * q + 1) / 2 = q by omega] at cB
                  have d1 : (q : Int) < (L : Int) := by omega
                  have d2 : 2 * (q : Int) < (L2 : Int) := by omega
                  have d3 : 2 * (q : Int) + 1 < (L2 : Int) := by omega
                  have e4 : ((T (2 * q)).toList == (T (2 * q)).toList) = true := by simp
                  clear eg eg3 eg4 hS hS2 hL2 hq2
                  go_wp2
                  go_quiet (fail)
                  go_wp2
                  go_roundw
                  case rel => exact ⟨q + 1, _, by omega, by go_num, rfl⟩
                  case measure => simp [intOf]; omega
                · go_wp2
                  go_ret
                  exact ⟨rfl, below_drewN hB5 _⟩
        · have hnb : ((n : Int) != (n' : Int)) = true := by rw [bne_iff_ne]; omega
          go_wp2
          go_ret
          exact ⟨rfl, Below.refl _ _⟩
    · go_wp2
      all_goals (go_ret; exact ⟨rfl, Below.refl _ _⟩)
end Go.Proofs.Qxb6603633a
