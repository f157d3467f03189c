/- The bounds: zzSizeOKB1 (14), zzBytes_FnShiftsExactly (13), zzBytes_FnShiftsExceptionsActOneByOne (18): each answers some bool and touches nothing. -/
import Derived.Test.Qxb6603633aWalkD
namespace Go.Proofs.Qxb6603633a
open Go.RowKit
set_option linter.unusedVariables false
open Plain

/-- Some bool is answered; nothing is touched. -/
def Says (w : World) (e : Ending) (w' : World) : Prop := ∃ r, e = .returned (.bool r) ∧ w' = w
theorem Says.mk (w : World) (r : Bool) : Says w (.returned (.bool r)) w := ⟨r, rfl, rfl⟩

theorem Strs.at {w : World} {a : Option Addr} {n c : Nat} {S : Nat → ByteArray} (h : Strs w a n c S) (k : Nat) (hk : k < n) : ∃ b o, a = some ⟨b, o, none⟩ ∧ w.cell? ⟨b, o + k, none⟩ = some (.string (S k)) := by
  rcases h.2 with h | ⟨b, o, h, _, hc⟩
  · omega
  · exact ⟨b, o, h, hc k hk⟩

set_option maxHeartbeats 1600000 in
theorem sizeOK_any (a a' : Option Addr) (n n' c c' : Nat) (F L : Nat → ByteArray) (gd m : ByteArray) (w : World) (hF : Strs w a n c F) (hL : Strs w a' n' c' L) (hn : n ≤ maxLen) (hn' : n' ≤ maxLen) (hgd : gd.size ≤ 65536) (hm : m.size ≤ 65536) :
    Calls Try.prog 14 #[.slice a n c, .slice a' n' c', .string gd, .string m] w fun e w' => Says w e w' := by
  unfold maxLen at hn hn'
  go_enter Try.func14, Try.ntmps14
  go_wp2
  go_loop [9, 10] (fun z i => ∃ k s : Nat, k ≤ n ∧ i = .int .i64 k ∧ z = .int .i64 s ∧ s ≤ 1048576) (fun _ i => n - (intOf i).toNat)
  case atStart => exact ⟨0, gd.size + m.size, Nat.zero_le _, rfl, by go_num, by omega⟩
  case round =>
    obtain ⟨k, s, hk, rfl, rfl, hs⟩ := hrel
    by_cases hlt : k < n
    · obtain ⟨b, o, rfl, c1⟩ := hF.at k hlt
      clear hF hL
      go_wp2
      · go_ret; exact Says.mk _ _
      · go_ret; exact Says.mk _ _
      · go_round
        case rel => exact ⟨k + 1, s + (F k).size, by omega, by go_num, by go_num, by omega⟩
        case measure => simp [intOf]; omega
    · go_wp2
      go_loop [9, 11] (fun z i => ∃ k s : Nat, k ≤ n' ∧ i = .int .i64 k ∧ z = .int .i64 s ∧ s ≤ 1048576) (fun _ i => n' - (intOf i).toNat)
      case atStart => exact ⟨0, s, Nat.zero_le _, rfl, rfl, by omega⟩
      case round =>
        clear hlt hk hs
        obtain ⟨k, s, hk, rfl, rfl, hs⟩ := hrel
        by_cases hlt : k < n'
        · obtain ⟨b, o, rfl, c1⟩ := hL.at k hlt
          clear hF hL
          go_wp2
          · go_ret; exact Says.mk _ _
          · go_ret; exact Says.mk _ _
          · go_round
            case rel => exact ⟨k + 1, s + (L k).size, by omega, by go_num, by go_num, by omega⟩
            case measure => simp [intOf]; omega
        · go_wp2
          go_ret
          exact Says.mk _ _

set_option maxHeartbeats 1600000 in
theorem bytes13_any (lv : Int) (a a' : Option Addr) (n n' c c' : Nat) (F L : Nat → ByteArray) (gd m : ByteArray) (w : World) (hF : Strs w a n c F) (hL : Strs w a' n' c' L) (hn : n ≤ maxLen) (hn' : n' ≤ maxLen) (hgd : gd.size ≤ maxLen) (hm : m.size ≤ maxLen) :
    Calls Try.prog 13 #[.int .i64 lv, .slice a n c, .slice a' n' c', .string gd, .string m] w fun e w' => Says w e w' := by
  unfold maxLen at hn hn' hgd hm
  go_enter Try.func13, Try.ntmps13
  go_wp2
  all_goals try (go_ret; exact Says.mk _ _)
  go_loop [11, 12] (fun z i => ∃ k s : Nat, k ≤ n ∧ i = .int .i64 k ∧ z = .int .i64 s ∧ s ≤ 1048576) (fun _ i => n - (intOf i).toNat)
  case atStart => exact ⟨0, n, Nat.zero_le _, rfl, by go_num, by omega⟩
  case round =>
    obtain ⟨k, s, hk, rfl, rfl, hs⟩ := hrel
    by_cases hlt : k < n
    · obtain ⟨b, o, rfl, c1⟩ := hF.at k hlt
      clear hF hL
      go_wp2
      · go_ret; exact Says.mk _ _
      · go_ret; exact Says.mk _ _
      · go_round
        case rel => exact ⟨k + 1, s + (F k).size, by omega, by go_num, by go_num, by omega⟩
        case measure => simp [intOf]; omega
    · go_wp2
      all_goals try (go_ret; exact Says.mk _ _)
      go_loop [11, 13] (fun z i => ∃ k s : Nat, k ≤ n' ∧ i = .int .i64 k ∧ z = .int .i64 s ∧ s ≤ 1048576) (fun _ i => n' - (intOf i).toNat)
      case atStart => exact ⟨0, s + n', Nat.zero_le _, rfl, by go_num, by omega⟩
      case round =>
        clear hlt hk hs
        obtain ⟨k, s, hk, rfl, rfl, hs⟩ := hrel
        by_cases hlt : k < n'
        · obtain ⟨b, o, rfl, c1⟩ := hL.at k hlt
          clear hF hL
          go_wp2
          · go_ret; exact Says.mk _ _
          · go_ret; exact Says.mk _ _
          · go_round
            case rel => exact ⟨k + 1, s + (L k).size, by omega, by go_num, by go_num, by omega⟩
            case measure => simp [intOf]; omega
        · go_wp2
          all_goals (go_ret; exact Says.mk _ _)

set_option maxHeartbeats 1600000 in
theorem bytes18_any (lv : Int) (a a' : Option Addr) (n n' c c' : Nat) (F L : Nat → ByteArray) (gd m : ByteArray) (w : World) (hF : Strs w a n c F) (hL : Strs w a' n' c' L) (hn : n ≤ maxLen) (hn' : n' ≤ maxLen) (hgd : gd.size ≤ maxLen) (hm : m.size ≤ maxLen) :
    Calls Try.prog 18 #[.int .i64 lv, .slice a n c, .slice a' n' c', .string gd, .string m] w fun e w' => Says w e w' := by
  unfold maxLen at hn hn' hgd hm
  go_enter Try.func18, Try.ntmps18
  go_wp2
  all_goals try (go_ret; exact Says.mk _ _)
  go_loop [11, 12] (fun z i => ∃ k s : Nat, k ≤ n ∧ i = .int .i64 k ∧ z = .int .i64 s ∧ s ≤ 1048576) (fun _ i => n - (intOf i).toNat)
  case atStart => exact ⟨0, n, Nat.zero_le _, rfl, by go_num, by omega⟩
  case round =>
    obtain ⟨k, s, hk, rfl, rfl, hs⟩ := hrel
    by_cases hlt : k < n
    · obtain ⟨b, o, rfl, c1⟩ := hF.at k hlt
      clear hF hL
      go_wp2
      · go_ret; exact Says.mk _ _
      · go_ret; exact Says.mk _ _
      · go_round
        case rel => exact ⟨k + 1, s + (F k).size, by omega, by go_num, by go_num, by omega⟩
        case measure => simp [intOf]; omega
    · go_wp2
      all_goals try (go_ret; exact Says.mk _ _)
      go_loop [11, 13] (fun z i => ∃ k s : Nat, k ≤ n' ∧ i = .int .i64 k ∧ z = .int .i64 s ∧ s ≤ 1048576) (fun _ i => n' - (intOf i).toNat)
      case atStart => exact ⟨0, s + n', Nat.zero_le _, rfl, by go_num, by omega⟩
      case round =>
        clear hlt hk hs
        obtain ⟨k, s, hk, rfl, rfl, hs⟩ := hrel
        by_cases hlt : k < n'
        · obtain ⟨b, o, rfl, c1⟩ := hL.at k hlt
          clear hF hL
          go_wp2
          · go_ret; exact Says.mk _ _
          · go_ret; exact Says.mk _ _
          · go_round
            case rel => exact ⟨k + 1, s + (L k).size, by omega, by go_num, by go_num, by omega⟩
            case measure => simp [intOf]; omega
        · go_wp2
          all_goals (go_ret; exact Says.mk _ _)
end Go.Proofs.Qxb6603633a
