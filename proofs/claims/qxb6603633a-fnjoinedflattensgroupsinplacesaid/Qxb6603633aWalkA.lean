/- The two text-comparing helpers: zzLessEqB1 (19), zzCommonPrefixB1 (16). -/
import Derived.Test.Qxb6603633aProg
import Derived.Test.Qxb6603633aPlain
import Derived.WalkKit
import Derived.Deep.QuietTactic
import Derived.BigQuiet
namespace Go.Proofs.Qxb6603633a
open Go.RowKit
set_option linter.unusedVariables false
open Plain

theorem drop_at (a : ByteArray) (k : Nat) (h : k < a.size) : a.data.toList.drop k = a[k] :: a.data.toList.drop (k + 1) := by
  rw [List.drop_eq_getElem_cons (by simpa using h)]; rfl

theorem byte_ne {x y : UInt8} (h : ((x.toNat : Int) != (y.toNat : Int)) = true) : x ≠ y := by
  rintro rfl; simp at h
theorem byte_eq {x y : UInt8} (h : ((x.toNat : Int) != (y.toNat : Int)) = false) : x = y := by
  simp at h; exact UInt8.toNat_inj.1 (by omega)

theorem le_stop (a b : ByteArray) (k : Nat) (ha : k < a.size) (hb : k < b.size) (h : a[k] ≠ b[k]) :
    leB (a.data.toList.drop k) (b.data.toList.drop k) = decide (a[k].toNat < b[k].toNat) := by
  rw [drop_at a k ha, drop_at b k hb, leB_cons_ne _ _ _ _ h]
  simp [UInt8.lt_iff_toNat_lt]
theorem le_step (a b : ByteArray) (k : Nat) (ha : k < a.size) (hb : k < b.size) (h : a[k] = b[k]) :
    leB (a.data.toList.drop k) (b.data.toList.drop k) = leB (a.data.toList.drop (k + 1)) (b.data.toList.drop (k + 1)) := by
  rw [drop_at a k ha, drop_at b k hb, h, leB_cons_eq]
theorem le_end (a b : ByteArray) (k : Nat) (ha : k ≤ a.size) (hb : k ≤ b.size) (h : k = a.size ∨ k = b.size) :
    leB (a.data.toList.drop k) (b.data.toList.drop k) = decide (a.size ≤ b.size) := by
  by_cases e : k = a.size
  · have : a.data.toList.drop k = [] := List.drop_eq_nil_of_le (by simp; omega)
    rw [this, leB_nil]; simp; omega
  · have : b.data.toList.drop k = [] := List.drop_eq_nil_of_le (by simp; omega)
    rw [this, drop_at a k (by omega), leB_cons_nil]; simp; omega

def leS (a b : ByteArray) : Bool := leB a.data.toList b.data.toList
def cpS (a b : ByteArray) : Nat := cpl a.data.toList b.data.toList

theorem ret_bool {a b : Bool} (h : a = b) : Ending.returned (.bool a) = .returned (.bool b) := by rw [h]
theorem ret_int {k : IntKind} {a b : Int} (h : a = b) : Ending.returned (.int k a) = .returned (.int k b) := by rw [h]

set_option maxHeartbeats 400000 in
theorem less_any (a b : ByteArray) (w : World) (ha : a.size ≤ maxLen) :
    Calls Try.prog 19 #[.string a, .string b] w fun e w' => e = .returned (.bool (leS a b)) ∧ ∃ n, w' = w.drewN n := by
  unfold maxLen at ha
  go_enter Try.func19, Try.ntmps19
  go_wp2
  go_loopw [5] (fun i wr => ∃ k n : Nat, k ≤ a.size ∧ k ≤ b.size ∧ i = .int .i64 k ∧ wr = w.drewN n ∧ leS a b = leB (a.data.toList.drop k) (b.data.toList.drop k)) (fun i _ => a.size - (intOf i).toNat)
  case atStart => exact ⟨0, 0, Nat.zero_le _, Nat.zero_le _, rfl, rfl, rfl⟩
  case round =>
    obtain ⟨k, n, hka, hkb, rfl, rfl, hle⟩ := hrel
    have HL : Hid (leS a b = leB (a.data.toList.drop k) (b.data.toList.drop k)) := hle
    clear hle
    by_cases h1 : k < a.size
    · by_cases h2 : k < b.size
      · by_cases hne : a[k] = b[k]
        · have H3 : Hid (a[k] = b[k]) := hne
          have hd : ((a[k].toNat : Int) != (b[k].toNat : Int)) = false := by rw [hne]; simp
          clear hne
          go_wp2
          go_quiet (fail)
          go_wp2
          go_roundw
          case rel => exact ⟨k + 1, _, by omega, by omega, by go_num, rfl, by rw [HL.out]; exact le_step a b k h1 h2 H3.out⟩
          case measure => simp [intOf]; omega
        · have H3 : Hid (a[k] ≠ b[k]) := hne
          have hd : ((a[k].toNat : Int) != (b[k].toNat : Int)) = true := by
            rw [bne_iff_ne]; intro h; exact hne (UInt8.toNat_inj.1 (by omega))
          clear hne
          go_wp2
          go_quiet (fail)
          go_wp2
          go_quiet (fail)
          go_wp2
          go_ret
          exact ⟨ret_bool (by rw [HL.out]; exact (le_stop a b k h1 h2 H3.out).symm), by simp only [World.drewN_drewN]; exact ⟨_, rfl⟩⟩
      · go_wp2
        go_ret
        exact ⟨ret_bool (by rw [HL.out]; exact (le_end a b k hka hkb (by omega)).symm), _, rfl⟩
    · go_wp2
      go_ret
      exact ⟨ret_bool (by rw [HL.out]; exact (le_end a b k hka hkb (by omega)).symm), _, rfl⟩

theorem cp_stop (a b : ByteArray) (k : Nat) (ha : k < a.size) (hb : k < b.size) (h : a[k] ≠ b[k]) : cpl (a.data.toList.drop k) (b.data.toList.drop k) = 0 := by
  rw [drop_at a k ha, drop_at b k hb, cpl_cons_ne _ _ _ _ h]
theorem cp_step (a b : ByteArray) (k : Nat) (ha : k < a.size) (hb : k < b.size) (h : a[k] = b[k]) :
    cpl (a.data.toList.drop k) (b.data.toList.drop k) = cpl (a.data.toList.drop (k + 1)) (b.data.toList.drop (k + 1)) + 1 := by
  rw [drop_at a k ha, drop_at b k hb, h, cpl_cons_eq]
theorem cp_end (a b : ByteArray) (k : Nat) (ha : k ≤ a.size) (hb : k ≤ b.size) (h : k = a.size ∨ k = b.size) : cpl (a.data.toList.drop k) (b.data.toList.drop k) = 0 := by
  by_cases e : k = a.size
  · have : a.data.toList.drop k = [] := List.drop_eq_nil_of_le (by simp; omega)
    rw [this, cpl_nil_left]
  · have : b.data.toList.drop k = [] := List.drop_eq_nil_of_le (by simp; omega)
    rw [this, cpl_nil_right]

set_option maxHeartbeats 400000 in
theorem common_any (a b : ByteArray) (w : World) (ha : a.size ≤ maxLen) :
    Calls Try.prog 16 #[.string a, .string b] w fun e w' => e = .returned (.int .i64 (cpS a b)) ∧ ∃ n, w' = w.drewN n := by
  unfold maxLen at ha
  go_enter Try.func16, Try.ntmps16
  go_wp2
  go_loopw [5] (fun i wr => ∃ k n : Nat, k ≤ a.size ∧ k ≤ b.size ∧ i = .int .i64 k ∧ wr = w.drewN n ∧ cpS a b = cpl (a.data.toList.drop k) (b.data.toList.drop k) + k) (fun i _ => a.size - (intOf i).toNat)
  case atStart => exact ⟨0, 0, Nat.zero_le _, Nat.zero_le _, rfl, rfl, rfl⟩
  case round =>
    obtain ⟨k, n, hka, hkb, rfl, rfl, hle⟩ := hrel
    have HL : Hid (cpS a b = cpl (a.data.toList.drop k) (b.data.toList.drop k) + k) := hle
    clear hle
    by_cases h1 : k < a.size
    · by_cases h2 : k < b.size
      · by_cases hne : a[k] = b[k]
        · have H3 : Hid (a[k] = b[k]) := hne
          have hd : ((a[k].toNat : Int) == (b[k].toNat : Int)) = true := by rw [hne]; simp
          have d1 : (k : Int) < (a.size : Int) := by omega
          have d2 : (k : Int) < (b.size : Int) := by omega
          clear hne
          go_wp2
          go_quiet (fail)
          go_wp2
          go_roundw
          case rel => exact ⟨k + 1, _, by omega, by omega, by go_num, rfl, by rw [HL.out, cp_step a b k h1 h2 H3.out]; omega⟩
          case measure => simp [intOf]; omega
        · have H3 : Hid (a[k] ≠ b[k]) := hne
          have hd : ((a[k].toNat : Int) == (b[k].toNat : Int)) = false := by
            rw [beq_eq_false_iff_ne]; intro h; exact hne (UInt8.toNat_inj.1 (by omega))
          have d1 : (k : Int) < (a.size : Int) := by omega
          have d2 : (k : Int) < (b.size : Int) := by omega
          clear hne
          go_wp2
          go_quiet (fail)
          go_wp2
          go_ret
          exact ⟨ret_int (by rw [HL.out, cp_stop a b k h1 h2 H3.out]; simp), by simp only [World.drewN_drewN]; exact ⟨_, rfl⟩⟩
      · have d1 : (k : Int) < (a.size : Int) := by omega
        have d2 : decide ((k : Int) < (b.size : Int)) = false := by simp; omega
        go_wp2
        go_quiet (fail)
        go_wp2
        go_ret
        exact ⟨ret_int (by rw [HL.out, cp_end a b k hka hkb (by omega)]; simp), by simp only [World.drewN_drewN]; exact ⟨_, rfl⟩⟩
    · have d1 : decide ((k : Int) < (a.size : Int)) = false := by simp; omega
      go_wp2
      go_quiet (fail)
      go_wp2
      go_ret
      exact ⟨ret_int (by rw [HL.out, cp_end a b k hka hkb (by omega)]; simp), by simp only [World.drewN_drewN]; exact ⟨_, rfl⟩⟩
end Go.Proofs.Qxb6603633a
