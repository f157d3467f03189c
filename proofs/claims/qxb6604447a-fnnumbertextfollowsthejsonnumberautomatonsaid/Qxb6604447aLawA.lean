/- FnNumberTextFollowsTheJSONNumberAutomaton (3). -/
import Derived.Test.Qxb6604447aWalkC
namespace Go.Proofs.Qxb6604447a
open Go.RowKit
set_option linter.unusedVariables false

theorem step_range {st c : Int} (h : ¬ step st c < 0) : 0 ≤ step st c ∧ step st c ≤ 8 := by
  refine ⟨by omega, ?_⟩
  unfold step
  repeat' split
  all_goals omega

/-- The answer is as the automaton has it. -/
theorem agrees {S : Nat → Int} {n p q k : Nat} {st : Int} {ok : Bool} (h : numP (tl S n p) = (ok, tl S n q)) (hq : q ≤ n) (hk : k ≤ n) (hf : auto 0 (tl S n p) = (st, tl S n k)) : (ok == acc st) = true ∧ ((q : Int) == (k : Int)) = true := by
  have h1 := auto0 (tl S n p)
  rw [hf, h] at h1
  simp only [ans, Prod.mk.injEq] at h1
  have hl := congrArg List.length h1.2
  rw [tl_length, tl_length] at hl
  exact ⟨by simp [h1.1], by simp; omega⟩

theorem auto_stop {S : Nat → Int} {n k : Nat} {st nx : Int} {x : Int × List Int} (h : auto st (tl S n k) = x) (hk : k < n) (e : nx = step st (S k)) (hn : nx < 0) : x = (st, tl S n k) := by
  subst e; rw [← h, tl_cons hk]; simp [auto, hn]
theorem auto_end {S : Nat → Int} {n k : Nat} {st : Int} {x : Int × List Int} (h : auto st (tl S n k) = x) (hk : ¬ k < n) : x = (st, tl S n k) := by
  rw [← h, tl_nil (by omega)]; rfl
theorem auto_on {S : Nat → Int} {n k : Nat} {st nx : Int} {x : Int × List Int} (h : auto st (tl S n k) = x) (hk : k < n) (e : nx = step st (S k)) (hn : ¬ nx < 0) : auto nx (tl S n (k + 1)) = x := by
  subst e; rw [← h, tl_cons hk]; simp [auto, hn]

set_option maxRecDepth 100000 in
set_option maxHeartbeats 2000000 in
theorem lawA (a : Option Addr) (n c : Nat) (S : Nat → Int) (p : Int) (w : World) (hS : Byts w a n c S) (hz : a = none → n = 0) (hm : n ≤ maxLen) :
    Calls Try.prog 3 #[.slice a n c, .int .i64 p] w fun e w' => e = .returned (.bool true) ∧ Below w.heap.size w w' := by
  by_cases hn : n ≤ 1048576
  · by_cases hp0 : 0 ≤ p
    · obtain ⟨p, rfl⟩ := Int.eq_ofNat_of_zero_le hp0
      by_cases hp : p ≤ n
      · go_enter Try.func3, Try.ntmps3
        go_wp2_with fail
        refine (bytes5 a n c p w hm).mono ?_
        rintro e w1 ⟨rfl, rfl⟩
        rw [decide_eq_true hn]
        clear hm hp0
        go_wp2_with fail
        refine (clone_any a n c S w1 hn hz hS).mono ?_
        rintro e w2 ⟨a2, c2, rfl, hS2, _, hb2⟩
        clear hS hz
        go_wp2_with fail
        refine (zznumber_any a2 n c2 p S w2 hS2 hp (by omega)).mono ?_
        rintro e w3 ⟨ok, q, rfl, hT, hq, hb3⟩
        have hS3 := hS2.below hb3
        have hB : Below w1.heap.size w1 w3 := hb2.trans (hb3.mono hb2.size)
        have HT : Hid _ := hT
        clear hT hS2 hb2 hb3
        go_wp2
        go_loopw [7, 8] (fun s i wr => ∃ (st : Int) (k : Nat), 0 ≤ st ∧ st ≤ 8 ∧ k ≤ n ∧ s = .int .i64 st ∧ i = .int .i64 k ∧ wr = w3 ∧ Hid (auto st (tl S n k) = auto 0 (tl S n p))) (fun _ i _ => n - (intOf i).toNat)
        case atStart => exact ⟨0, p, by omega, by omega, hp, rfl, rfl, rfl, rfl⟩
        case round =>
          obtain ⟨st, k, s0, s8, hk, rfl, rfl, rfl, HA⟩ := hrel
          by_cases hlt : k < n
          · obtain ⟨b, o, rfl, _, k1⟩ := hS3.at k hlt
            go_wp2_with fail
            refine (step_any st (S k) _ s0 s8).mono ?_
            rintro e w4 ⟨rfl, rfl⟩
            obtain ⟨nx, hnx⟩ : ∃ nx, nx = step st (S k) := ⟨_, rfl⟩
            rw [← hnx]
            by_cases hneg : nx < 0
            · have hag := agrees HT.out hq hk (auto_stop HA.out hlt hnx hneg)
              obtain ⟨g1, g2⟩ := hag
              clear hnx
              go_wp2_with fail
              refine (acc_any st _).mono ?_
              rintro e w5 ⟨rfl, rfl⟩
              go_wp2
              go_ret
              exact ⟨rfl, hB⟩
            · have HN : Hid _ := auto_on HA.out hlt hnx hneg
              have hr := step_range (by rw [← hnx]; exact hneg)
              rw [← hnx] at hr
              obtain ⟨r0, r8⟩ := hr
              clear hnx
              go_wp2
              go_roundw
              case rel => exact ⟨nx, k + 1, r0, r8, hlt, rfl, by go_num, trivial, HN⟩
              case measure => simp [intOf]; omega
          · have hag := agrees HT.out hq hk (auto_end HA.out hlt)
            go_wp2_with fail
            refine (acc_any st _).mono ?_
            rintro e w4 ⟨rfl, rfl⟩
            obtain ⟨g1, g2⟩ := hag
            go_wp2
            go_ret
            exact ⟨rfl, hB⟩
      · go_enter Try.func3, Try.ntmps3
        go_wp2_with fail
        refine (bytes5 a n c p w hm).mono ?_
        rintro e w1 ⟨rfl, rfl⟩
        rw [decide_eq_true hn]
        clear hm hp0
        go_wp2
        go_ret
        exact ⟨rfl, Below.refl _ _⟩
    · go_enter Try.func3, Try.ntmps3
      go_wp2_with fail
      refine (bytes5 a n c p w hm).mono ?_
      rintro e w1 ⟨rfl, rfl⟩
      rw [decide_eq_true hn]
      clear hm
      go_wp2
      go_ret
      exact ⟨rfl, Below.refl _ _⟩
  · go_enter Try.func3, Try.ntmps3
    go_wp2_with fail
    refine (bytes5 a n c p w hm).mono ?_
    rintro e w1 ⟨rfl, rfl⟩
    rw [decide_eq_false hn]
    go_wp2
    go_ret
    exact ⟨rfl, Below.refl _ _⟩
end Go.Proofs.Qxb6604447a
