/- The state of a run of 'joined', and what its three callees do: the operand (20), inner (22), take (25). -/
import Derived.Test.Qxb6603633aProg
import Derived.WalkKit
import Derived.WalkSmall
import Derived.RegionTactic
import Derived.ChangeAlike
import Derived.Deep.QuietTactic
import Derived.BigQuiet
namespace Go.Proofs.Qxb6603633a
open Go.RowKit
set_option linter.unusedVariables false

/-- N: 'paired'; N + 1: the tokens; N + 2: the parser; N + 3: the variable p. -/
structure JS (w : World) (N n : Nat) (K : Nat → Int) (T : Nat → ByteArray) (paired : Bool) (pos : Nat) : Prop where
  pb : w.cell? ⟨N, 0, none⟩ = some (.bool paired)
  tk : ∀ k, k < n → w.cell? ⟨N + 1, k * 2, none⟩ = some (.int .i64 (K k))
  tt : ∀ k, k < n → w.cell? ⟨N + 1, k * 2 + 1, none⟩ = some (.string (T k))
  p0 : w.cell? ⟨N + 2, 0, none⟩ = some (.slice (some ⟨N + 1, 0, none⟩) n n)
  p1 : w.cell? ⟨N + 2, 1, none⟩ = some (.int .i64 pos)
  f1 : w.frozen? ⟨N + 2, 1, none⟩ = false
  pv : w.cell? ⟨N + 3, 0, none⟩ = some (.pointer (some ⟨N + 2, 0, none⟩))
  sz : N + 4 ≤ w.heap.size

theorem grownBy_trans {a b c : World} {r : Option Nat} (h : a.grownBy b r) (k : b.grownBy c r) : a.grownBy c r :=
  ⟨k.os.trans h.os, k.tape.trans h.tape, k.output.trans h.output, Nat.le_trans h.size k.size, fun i hi hr => (k.block i (Nat.lt_of_lt_of_le hi h.size) hr).trans (h.block i hi hr)⟩
theorem grownBy_drew {a b : World} {r : Option Nat} (h : a.grownBy b r) : a.grownBy b.drew r := ⟨h.os, h.tape, h.output, h.size, h.block⟩
theorem grownBy_drewN {a b : World} {r : Option Nat} (h : a.grownBy b r) (n : Nat) : a.grownBy (b.drewN n) r := ⟨h.os, h.tape, h.output, h.size, h.block⟩
theorem grownBy_alloc {a b : World} {r : Option Nat} (h : a.grownBy b r) (o : Obj) : a.grownBy (b.alloc o) r := grownBy_trans h (World.grownBy_alloc b o r)
theorem grownBy_setCell {a b : World} {r : Option Nat} (h : a.grownBy b r) (p : Addr) (u : Value) (hp : r = some p.block ∨ a.heap.size ≤ p.block) : a.grownBy (b.setCell p u) r := by
  refine ⟨h.os, h.tape, h.output, by simpa using h.size, fun k hk hr => ?_⟩
  rw [Below.heap_setCell b p u k (by rintro rfl; rcases hp with e | e <;> first | exact hr e.symm | omega)]
  exact h.block k hk hr

theorem JS.grown {w w' : World} {N n : Nat} {K : Nat → Int} {T : Nat → ByteArray} {p : Bool} {pos pos' : Nat} (h : JS w N n K T p pos) (hg : w.grownBy w' (some (N + 2)))
    (p0 : w'.cell? ⟨N + 2, 0, none⟩ = some (.slice (some ⟨N + 1, 0, none⟩) n n)) (p1 : w'.cell? ⟨N + 2, 1, none⟩ = some (.int .i64 pos')) (f1 : w'.frozen? ⟨N + 2, 1, none⟩ = false) : JS w' N n K T p pos' := by
  have hs := h.sz
  refine ⟨?_, fun k hk => ?_, fun k hk => ?_, p0, p1, f1, ?_, Nat.le_trans hs hg.size⟩
  · exact hg.cell h.pb (by simp)
  · exact hg.cell (h.tk k hk) (by simp)
  · exact hg.cell (h.tt k hk) (by simp)
  · exact hg.cell h.pv (by simp)

/-- A call that writes nothing old leaves the state as it is. -/
theorem JS.below {w w' : World} {N n : Nat} {K : Nat → Int} {T : Nat → ByteArray} {p : Bool} {pos : Nat} (h : JS w N n K T p pos) (hb : Below w.heap.size w w') : JS w' N n K T p pos := by
  have hs := h.sz
  exact ⟨(hb.cell (p := ⟨N, 0, none⟩) (by show N < _; omega)).trans h.pb, fun k hk => (hb.cell (p := ⟨N + 1, k * 2, none⟩) (by show N + 1 < _; omega)).trans (h.tk k hk), fun k hk => (hb.cell (p := ⟨N + 1, k * 2 + 1, none⟩) (by show N + 1 < _; omega)).trans (h.tt k hk),
    (hb.cell (p := ⟨N + 2, 0, none⟩) (by show N + 2 < _; omega)).trans h.p0, (hb.cell (p := ⟨N + 2, 1, none⟩) (by show N + 2 < _; omega)).trans h.p1, (hb.frozen (p := ⟨N + 2, 1, none⟩) (by show N + 2 < _; omega)).trans h.f1,
    (hb.cell (p := ⟨N + 3, 0, none⟩) (by show N + 3 < _; omega)).trans h.pv, Nat.le_trans hs hb.size⟩

theorem grownBy_of {w w' : World} (h : Below w.heap.size w w') (r : Option Nat) : w.grownBy w' r := ⟨h.os, h.tape, h.output, h.size, fun k hk _ => h.block k hk⟩

/-- New blocks, then the parser's place moved on. -/
theorem JS.step {w wA : World} {N n : Nat} {K : Nat → Int} {T : Nat → ByteArray} {p : Bool} {pos : Nat} (h : JS w N n K T p pos) (hb : Below w.heap.size w wA) :
    w.grownBy (wA.setCell ⟨N + 2, 1, none⟩ (.int .i64 ((pos : Int) + 1))) (some (N + 2)) ∧ JS (wA.setCell ⟨N + 2, 1, none⟩ (.int .i64 ((pos : Int) + 1))) N n K T p (pos + 1) := by
  have hg : w.grownBy (wA.setCell ⟨N + 2, 1, none⟩ (.int .i64 ((pos : Int) + 1))) (some (N + 2)) := grownBy_setCell (grownBy_of hb _) _ _ (.inl rfl)
  have hA := h.below hb
  refine ⟨hg, h.grown hg ?_ ?_ ?_⟩
  · rw [World.cell?_setCell_other _ _ _ _ (by simp)]; exact hA.p0
  · rw [World.cell?_setCell_same _ _ _ hA.p1]; rfl
  · rw [World.frozen?_setCell]; exact hA.f1

theorem old_cell {w : World} {b off : Nat} {v : Value} (h : w.cell? ⟨b, off, none⟩ = some v) (hb : b < w.heap.size) (o : Obj) : (w.alloc o).cell? ⟨b, off, none⟩ = some v :=
  ((((Below.refl w.heap.size w).alloc (Nat.le_refl _) o).cell (p := ⟨b, off, none⟩) hb).trans h)

theorem old_frozen {w : World} {b off : Nat} {v : Bool} (h : w.frozen? ⟨b, off, none⟩ = v) (hb : b < w.heap.size) (o : Obj) : (w.alloc o).frozen? ⟨b, off, none⟩ = v :=
  ((((Below.refl w.heap.size w).alloc (Nat.le_refl _) o).frozen (p := ⟨b, off, none⟩) hb).trans h)

set_option maxHeartbeats 800000 in
theorem new_any (s : ByteArray) (w : World) : Calls Try.prog 21 #[.string s] w fun e w' => e = .returned (.iface 65 (.pointer (some ⟨w.heap.size, 0, none⟩))) ∧ w' = w.alloc (.cells #[.string s] 67) := by
  go_enter Try.func21, Try.ntmps21
  go_wp2
  go_ret
  exact ⟨rfl, rfl⟩

set_option maxHeartbeats 800000 in
theorem operand_end {N n : Nat} {K : Nat → Int} {T : Nat → ByteArray} {p : Bool} {pos : Nat} (w : World) (h : JS w N n K T p pos) (hp : n ≤ pos) :
    Calls Try.prog 20 #[.pointer (some ⟨N + 3, 0, none⟩), .pointer (some ⟨N, 0, none⟩)] w fun e w' => (∃ x, e = .returned (.tuple #[.nilIface, .iface 65 x])) ∧ Below w.heap.size w w' := by
  have q0 := h.p0
  have q1 := h.p1
  have qv := h.pv
  have hd : (n : Int) ≤ (pos : Int) := by omega
  clear h
  go_enter Try.func20, Try.ntmps20
  go_wp2
  go_quiet (fail)
  go_wp2
  go_ret2
  exact ⟨⟨_, rfl⟩, (below_drewN (Below.refl _ _) _).alloc (Nat.le_refl _) _⟩

set_option maxHeartbeats 800000 in
theorem operand_single {N n : Nat} {K : Nat → Int} {T : Nat → ByteArray} {pos : Nat} (w : World) (h : JS w N n K T false pos) (hp : pos < n) (hn : n ≤ 65536) :
    Calls Try.prog 20 #[.pointer (some ⟨N + 3, 0, none⟩), .pointer (some ⟨N, 0, none⟩)] w fun e w' => e = .returned (.tuple #[.iface 49 (.agg #[.string (T pos)]), .nilIface]) ∧ w.grownBy w' (some (N + 2)) ∧ JS w' N n K T false (pos + 1) := by
  have q0 := h.p0
  have q1 := h.p1
  have qv := h.pv
  have qb := h.pb
  have k1 := h.tk pos hp
  have k2 := h.tt pos hp
  have f1 := h.f1
  have hz := h.sz
  have hd : decide ((n : Int) ≤ (pos : Int)) = false := decide_eq_false (by omega)
  have hd' : (pos : Int) < (n : Int) := by omega
  have hda : ∀ (m : Nat) (o : Obj), (w.drewN m).alloc o = (w.alloc o).drewN m := fun _ _ => rfl
  have a0 := old_cell q0 (by omega)
  have a1 := old_cell q1 (by omega)
  have av := old_cell qv (by omega)
  have ak := old_cell k1 (by omega)
  have at' := old_cell k2 (by omega)
  have ab := old_cell qb (by omega)
  have af := old_frozen f1 (by omega)
  go_enter Try.func20, Try.ntmps20
  go_wp2
  go_quiet (fail)
  go_wp2
  go_region
  go_wp2
  go_ret2
  exact ⟨rfl, h.step (((below_drewN ((Below.refl _ _).alloc (Nat.le_refl _) _) _).setCell (Nat.le_refl _) _).setCell (Nat.le_refl _) _)⟩

set_option maxHeartbeats 800000 in
theorem operand_pair {N n : Nat} {K : Nat → Int} {T : Nat → ByteArray} {pos : Nat} (w : World) (h : JS w N n K T true pos) (hp : pos < n) (hn : n ≤ 65536) :
    Calls Try.prog 20 #[.pointer (some ⟨N + 3, 0, none⟩), .pointer (some ⟨N, 0, none⟩)] w fun e w' => ∃ g, e = .returned (.tuple #[.iface 52 (.agg #[.slice (some ⟨g, 0, none⟩) 2 2, .string { data := #[] }]), .nilIface]) ∧ w.grownBy w' (some (N + 2)) ∧ JS w' N n K T true (pos + 1) ∧
      w.heap.size ≤ g ∧ g < w'.heap.size ∧ w'.cell? ⟨g, 0, none⟩ = some (.iface 49 (.agg #[.string (T pos)])) ∧ w'.cell? ⟨g, 1, none⟩ = some (.iface 49 (.agg #[.string (T pos)])) := by
  have q0 := h.p0
  have q1 := h.p1
  have qv := h.pv
  have qb := h.pb
  have k1 := h.tk pos hp
  have k2 := h.tt pos hp
  have f1 := h.f1
  have hz := h.sz
  have hd : decide ((n : Int) ≤ (pos : Int)) = false := decide_eq_false (by omega)
  have hd' : (pos : Int) < (n : Int) := by omega
  have hda : ∀ (m : Nat) (o : Obj), (w.drewN m).alloc o = (w.alloc o).drewN m := fun _ _ => rfl
  have a0 := old_cell q0 (by omega)
  have a1 := old_cell q1 (by omega)
  have av := old_cell qv (by omega)
  have ak := old_cell k1 (by omega)
  have at' := old_cell k2 (by omega)
  have ab := old_cell qb (by omega)
  have af := old_frozen f1 (by omega)
  go_enter Try.func20, Try.ntmps20
  go_wp2
  go_quiet (fail)
  go_wp2
  go_region
  go_wp2
  go_ret2
  have hs := h.step (((below_drewN ((Below.refl _ _).alloc (Nat.le_refl _) (.cells #[.int .i64 0, .string { data := #[] }] 38)) (nq + 1)).setCell (p := ⟨w.heap.size, 0, none⟩) (Nat.le_refl _) (.int .i64 (K pos))).setCell (p := ⟨w.heap.size, 1, none⟩) (Nat.le_refl _) (.string (T pos)))
  refine ⟨w.heap.size + 1, rfl, grownBy_alloc hs.1 _, hs.2.below ((Below.refl _ _).alloc (Nat.le_refl _) _), by omega, by simp, ?_, ?_⟩
  · rw [World.cell?_alloc_at _ _ _ _ (by simp)]; rfl
  · rw [World.cell?_alloc_at _ _ _ _ (by simp)]; rfl

set_option maxHeartbeats 800000 in
theorem inner_single (s : ByteArray) (w : World) : Calls Try.prog 22 #[.iface 49 (.agg #[.string s])] w fun e w' => e = .returned (.tuple #[.slice none 0 0, .bool false]) ∧ Below w.heap.size w w' := by
  have ht : ∀ w, (Instr.typeAssert (.iface 49 (.agg #[.string s])) 44 52 true).run Try.prog w = .ok (.tuple #[.agg #[.slice none 0 0, .string { data := #[] }], .bool false]) w := fun _ => by kernel_rfl
  go_enter Try.func22, Try.ntmps22
  go_wp2
  go_ret2
  exact ⟨rfl, (Below.refl _ _).alloc (Nat.le_refl _) _⟩

set_option maxHeartbeats 800000 in
theorem inner_pair (g : Nat) (s : ByteArray) (w : World) : Calls Try.prog 22 #[.iface 52 (.agg #[.slice (some ⟨g, 0, none⟩) 2 2, .string s])] w fun e w' => e = .returned (.tuple #[.slice (some ⟨g, 0, none⟩) 2 2, .bool true]) ∧ Below w.heap.size w w' := by
  have ht : ∀ w, (Instr.typeAssert (.iface 52 (.agg #[.slice (some ⟨g, 0, none⟩) 2 2, .string s])) 44 52 true).run Try.prog w = .ok (.tuple #[.agg #[.slice (some ⟨g, 0, none⟩) 2 2, .string s], .bool true]) w := fun _ => by kernel_rfl
  go_enter Try.func22, Try.ntmps22
  go_wp2
  go_ret2
  exact ⟨rfl, (Below.refl _ _).alloc (Nat.le_refl _) _⟩

set_option maxHeartbeats 800000 in
theorem take_yes {N n : Nat} {K : Nat → Int} {T : Nat → ByteArray} {p : Bool} {pos : Nat} (op : Int) (w : World) (h : JS w N n K T p pos) (hn : n ≤ 65536) (hp : pos < n) (hk : K pos = op) :
    Calls Try.prog 25 #[.pointer (some ⟨N + 2, 0, none⟩), .int .i64 op] w fun e w' => e = .returned (.bool true) ∧ w.grownBy w' (some (N + 2)) ∧ JS w' N n K T p (pos + 1) := by
  have q0 := h.p0
  have q1 := h.p1
  have k1 := h.tk pos hp
  rw [hk] at k1
  have f1 := h.f1
  have hd' : (pos : Int) < (n : Int) := by omega
  have he : (op == op) = true := by simp
  clear hk
  go_enter Try.func25, Try.ntmps25
  go_wp2
  go_quiet (fail)
  go_wp2
  go_ret
  exact ⟨rfl, h.step (below_drewN (Below.refl _ _) _)⟩

set_option maxHeartbeats 800000 in
theorem take_no {N n : Nat} {K : Nat → Int} {T : Nat → ByteArray} {p : Bool} {pos : Nat} (op : Int) (w : World) (h : JS w N n K T p pos) (hp : ¬ (pos < n ∧ K pos = op)) :
    Calls Try.prog 25 #[.pointer (some ⟨N + 2, 0, none⟩), .int .i64 op] w fun e w' => e = .returned (.bool false) ∧ Below w.heap.size w w' := by
  have q0 := h.p0
  have q1 := h.p1
  by_cases hlt : pos < n
  · have k1 := h.tk pos hlt
    have hne : ¬ K pos = op := fun e => hp ⟨hlt, e⟩
    have hd' : (pos : Int) < (n : Int) := by omega
    have he : (K pos == op) = false := by simpa using hne
    clear h hp hne
    go_enter Try.func25, Try.ntmps25
    go_wp2
    go_quiet (fail)
    go_wp2
    go_ret
    exact ⟨rfl, below_drewN (Below.refl _ _) _⟩
  · have hd' : decide ((pos : Int) < (n : Int)) = false := decide_eq_false (by omega)
    clear h hp
    go_enter Try.func25, Try.ntmps25
    go_wp2
    go_quiet (fail)
    go_wp2
    go_ret
    exact ⟨rfl, below_drewN (Below.refl _ _) _⟩
end Go.Proofs.Qxb6603633a
