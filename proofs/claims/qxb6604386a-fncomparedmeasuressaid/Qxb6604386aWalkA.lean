/- The small functions of the seat. -/
import Derived.Test.Qxb6604386aProg
import Derived.Test.Qxb6604386aFlF
import Derived.WalkKit
import Derived.WalkSmall
import Derived.Laws.FloatArith
namespace Go.Proofs.Qxb6604386a
open Go.RowKit
set_option linter.unusedVariables false

/-- A float stored into a cell: the law that the kit lacks. -/
theorem run_store_float {P : Program} {w : World} {a : Addr} {m : Mode} (k : FloatKind) (n : Nat) : (store a (.float k n) m).run P w = stored P w a (.float k n) m := run_store P w a _ m rfl
theorem run_neg_float {P : Program} {w : World} (n : Nat) : (Op.unary .neg (.float .f64 n)).run P w = .ok (.float .f64 (n ^^^ 2 ^ 63)) w := rfl
attribute [local go_sem] run_store_float
attribute [local go_sem] run_neg_float

set_option maxHeartbeats 800000 in
theorem bytes_yes (nm : ByteArray) (a b c : Nat) (h1 h2 : Bool) (w : World) (hl : nm.size ≤ 1048576) : Calls Try.prog 5 #[.string nm, .float .f64 a, .float .f64 b, .float .f64 c, .bool h1, .bool h2] w fun e w' => e = .returned (.bool true) ∧ w' = w := by
  go_enter Try.func5, Try.ntmps5
  go_wp2
  go_ret
  exact ⟨rfl, rfl⟩
set_option maxHeartbeats 800000 in
theorem bytes_no (nm : ByteArray) (a b c : Nat) (h1 h2 : Bool) (w : World) (hl : ¬ nm.size ≤ 1048576) : Calls Try.prog 5 #[.string nm, .float .f64 a, .float .f64 b, .float .f64 c, .bool h1, .bool h2] w fun e w' => e = .returned (.bool false) ∧ w' = w := by
  go_enter Try.func5, Try.ntmps5
  go_wp2
  all_goals (go_ret; exact ⟨rfl, rfl⟩)

set_option maxHeartbeats 800000 in
theorem name_any (s : ByteArray) (x : Nat) (d : Bool) (w : World) : Calls Try.prog 7 #[.agg #[.string s, .float .f64 x, .bool d]] w fun e w' => e = .returned (.string s) ∧ Below w.heap.size w w' := by
  go_enter Try.func7, Try.ntmps7
  go_wp2
  go_ret
  exact ⟨rfl, (Below.refl _ _).alloc (Nat.le_refl _) _⟩
set_option maxHeartbeats 800000 in
theorem value_any (s : ByteArray) (x : Nat) (d : Bool) (w : World) : Calls Try.prog 10 #[.agg #[.string s, .float .f64 x, .bool d]] w fun e w' => e = .returned (.float .f64 x) ∧ Below w.heap.size w w' := by
  go_enter Try.func10, Try.ntmps10
  go_wp2
  go_ret
  exact ⟨rfl, (Below.refl _ _).alloc (Nat.le_refl _) _⟩
set_option maxHeartbeats 800000 in
theorem defined_any (s : ByteArray) (x : Nat) (d : Bool) (w : World) : Calls Try.prog 11 #[.agg #[.string s, .float .f64 x, .bool d]] w fun e w' => e = .returned (.bool d) ∧ Below w.heap.size w w' := by
  go_enter Try.func11, Try.ntmps11
  go_wp2
  go_ret
  exact ⟨rfl, (Below.refl _ _).alloc (Nat.le_refl _) _⟩

set_option maxHeartbeats 800000 in
theorem same_any (x : Nat) (w : World) : Calls Try.prog 9 #[.float .f64 x, .float .f64 x] w fun e w' => e = .returned (.bool true) ∧ w' = w := by
  cases h : (FloatKind.f64.format.order x x == some .eq) with
  | true =>
    go_enter Try.func9, Try.ntmps9
    go_wp2
    go_ret
    exact ⟨rfl, rfl⟩
  | false =>
    have h' : (FloatKind.f64.format.order x x != some .eq) = true := by rw [bne, h]; rfl
    go_enter Try.func9, Try.ntmps9
    go_wp2
    go_ret
    exact ⟨rfl, rfl⟩

set_option maxHeartbeats 800000 in
theorem abs_any (x : Nat) (w : World) : Calls Try.prog 12 #[.float .f64 x] w fun e w' => e = .returned (.float .f64 (Fl.absB x)) ∧ w' = w := by
  cases h : (FloatKind.f64.format.order x 0 == some .lt) with
  | true =>
    have e1 : Fl.absB x = x ^^^ 2 ^ 63 := if_pos h
    rw [e1]
    clear e1
    go_enter Try.func12, Try.ntmps12
    go_wp2
    go_ret
    exact ⟨rfl, rfl⟩
  | false =>
    have e1 : Fl.absB x = x := if_neg (by rw [show (Ieee.double.order x 0 == some .lt) = false from h]; simp)
    rw [e1]
    clear e1
    go_enter Try.func12, Try.ntmps12
    go_wp2
    go_ret
    exact ⟨rfl, rfl⟩

set_option maxHeartbeats 800000 in
theorem suffix0 (w : World) : Calls Try.prog 8 #[.int .i64 0] w fun e w' => e = .returned (.string { data := #[95, 97, 110, 97, 108, 121, 116, 105, 99] }) ∧ w' = w := by
  go_enter Try.func8, Try.ntmps8
  go_wp2
  go_ret
  exact ⟨rfl, rfl⟩
set_option maxHeartbeats 800000 in
theorem suffix1 (w : World) : Calls Try.prog 8 #[.int .i64 1] w fun e w' => e = .returned (.string { data := #[95, 115, 105, 109, 117, 108, 97, 116, 101, 100] }) ∧ w' = w := by
  go_enter Try.func8, Try.ntmps8
  go_wp2
  go_ret
  exact ⟨rfl, rfl⟩
set_option maxHeartbeats 800000 in
theorem suffix2 (w : World) : Calls Try.prog 8 #[.int .i64 2] w fun e w' => e = .returned (.string { data := #[95, 99, 105, 57, 57] }) ∧ w' = w := by
  go_enter Try.func8, Try.ntmps8
  go_wp2
  go_ret
  exact ⟨rfl, rfl⟩
set_option maxHeartbeats 800000 in
theorem suffix3 (w : World) : Calls Try.prog 8 #[.int .i64 3] w fun e w' => e = .returned (.string { data := #[95, 101, 114, 114, 111, 114] }) ∧ w' = w := by
  go_enter Try.func8, Try.ntmps8
  go_wp2
  go_ret
  exact ⟨rfl, rfl⟩

set_option maxHeartbeats 800000 in
theorem analytic_any (nm : ByteArray) (x : Nat) (w : World) (hl : nm.size ≤ 1048576) : Calls Try.prog 16 #[.string nm, .float .f64 x] w fun e w' => e = .returned (.agg #[.string (nm ++ { data := #[95, 97, 110, 97, 108, 121, 116, 105, 99] }), .float .f64 x, .bool true]) ∧ Below w.heap.size w w' := by
  go_enter Try.func16, Try.ntmps16
  go_wp2
  refine bodyPost_ret (v := .agg #[.string (nm ++ { data := #[95, 97, 110, 97, 108, 121, 116, 105, 99] }), .float .f64 x, .bool true]) (by simp [results, Try.results16, go_sem]) rfl ⟨rfl, ?_⟩
  exact (Below.refl _ _).alloc (Nat.le_refl _) _
end Go.Proofs.Qxb6604386a
