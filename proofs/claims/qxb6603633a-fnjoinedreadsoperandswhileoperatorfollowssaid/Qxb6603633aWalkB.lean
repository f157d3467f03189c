/- (Range).Covers (26), (TariffShift).Shifts (24). -/
import Derived.Test.Qxb6603633aWalkA
import Derived.Laws.Cover1
import Derived.WalkSmall
namespace Go.Proofs.Qxb6603633a
open Go.RowKit
set_option linter.unusedVariables false
open Plain

theorem extract_take (m : ByteArray) (n : Nat) : (m.extract 0 n).data.toList = m.data.toList.take n := by
  simp [ByteArray.data_extract]

def covS (f l m : ByteArray) : Bool := covB f.data.toList l.data.toList m.data.toList

theorem leq_eq (a b : ByteArray) : (Op.bytesLess a.toList b.toList || a.toList == b.toList) = leS a b := by
  rw [ByteArray.toList_eq, ByteArray.toList_eq]; rfl
theorem cov_eq (f l m : ByteArray) : (leS f (m.extract 0 f.size) && leS (m.extract 0 f.size) l) = covS f l m := by
  unfold leS covS covB
  rw [extract_take]; rfl
theorem cov_yes (f l m : ByteArray) : ((Op.bytesLess f.toList (m.extract 0 f.size).toList || f.toList == (m.extract 0 f.size).toList) &&
    (Op.bytesLess (m.extract 0 f.size).toList l.toList || (m.extract 0 f.size).toList == l.toList)) = covS f l m := by
  rw [leq_eq, leq_eq, cov_eq]
theorem cov_no (f l m : ByteArray) (h : ¬(Op.bytesLess f.toList (m.extract 0 f.size).toList = true ∨ f.toList = (m.extract 0 f.size).toList)) : false = covS f l m := by
  have h' : leS f (m.extract 0 f.size) = false := by
    rw [← leq_eq]
    cases hh : (Op.bytesLess f.toList (m.extract 0 f.size).toList || f.toList == (m.extract 0 f.size).toList) with
    | false => rfl
    | true => exact absurd (by simpa using hh) h
  rw [← cov_eq, h', Bool.false_and]

set_option maxHeartbeats 400000 in
theorem covers_any (f l m : ByteArray) (w : World) (hf : f.size ≤ m.size) (hm : m.size ≤ maxLen) :
    Calls Try.prog 26 #[.agg #[.string f, .string l], .string m] w fun e w' => e = .returned (.bool (covS f l m)) ∧ Below w.heap.size w w' := by
  unfold maxLen at hm
  go_enter Try.func26, Try.ntmps26
  go_wp2
  · go_ret
    exact ⟨ret_bool (cov_yes f l m), (Below.refl _ _).alloc (Nat.le_refl _) _⟩
  · go_ret
    exact ⟨ret_bool (cov_no f l m ‹_›), (Below.refl _ _).alloc (Nat.le_refl _) _⟩

/-- The first n ranges, as texts. -/
def Fl (F : Nat → ByteArray) : Nat → List UInt8 := fun k => (F k).data.toList
/-- What 'Shifts' answers. -/
def shS (lv : Nat) (F L : Nat → ByteArray) (n : Nat) (g m : ByteArray) : Bool := shB lv (Fl F) (Fl L) n g.data.toList m.data.toList

theorem bcell {W w1 : World} (hb : Below W.heap.size W w1) : (∀ b o, b < W.heap.size → w1.cell? ⟨b, o, none⟩ = W.cell? ⟨b, o, none⟩) ∧ (∀ b o, b < W.heap.size → w1.frozen? ⟨b, o, none⟩ = W.frozen? ⟨b, o, none⟩) :=
  ⟨fun b o h => hb.cell (p := ⟨b, o, none⟩) h, fun b o h => hb.frozen (p := ⟨b, o, none⟩) h⟩

theorem sh_same {lv n : Nat} {F L : Nat → ByteArray} {g m : ByteArray} (h : ((g.extract 0 lv).toList == (m.extract 0 lv).toList) = true) : false = shS lv F L n g m := by
  rw [ByteArray.toList_eq, ByteArray.toList_eq, extract_take, extract_take] at h
  simp [shS, shB, h]
theorem sh_miss {lv n : Nat} {F L : Nat → ByteArray} {g m : ByteArray} (h : ((g.extract 0 lv).toList == (m.extract 0 lv).toList) = false) (hc : covN (Fl F) (Fl L) m.data.toList n = false) : true = shS lv F L n g m := by
  rw [ByteArray.toList_eq, ByteArray.toList_eq, extract_take, extract_take] at h
  simp [shS, shB, h, hc]
theorem sh_hit {lv n k : Nat} {F L : Nat → ByteArray} {g m : ByteArray} (hk : k < n) (hc : covS (F k) (L k) m = true) : false = shS lv F L n g m := by
  have : covN (Fl F) (Fl L) m.data.toList n = true := covN_true hk hc
  simp [shS, shB, this]
theorem cov_succ {k : Nat} {F L : Nat → ByteArray} {m : ByteArray} (h : covN (Fl F) (Fl L) m.data.toList k = false) (hc : covS (F k) (L k) m = false) : covN (Fl F) (Fl L) m.data.toList (k + 1) = false := by
  rw [covN, h, Bool.false_or]; exact hc

set_option maxHeartbeats 400000 in
/-- 'a': the row of ranges, two cells each, in block g. -/
theorem shifts_any (lv : Nat) (F L : Nat → ByteArray) (n cap G : Nat) (gd m : ByteArray) (w : World) (h1 : lv ≤ gd.size) (h2 : lv ≤ m.size) (hgd : gd.size ≤ maxLen) (hm : m.size ≤ maxLen)
    (hn : n ≤ 65536) (hG : G < w.heap.size)
    (hF : ∀ k, k < n → w.cell? ⟨G, k * 2, none⟩ = some (.string (F k))) (hL : ∀ k, k < n → w.cell? ⟨G, k * 2 + 1, none⟩ = some (.string (L k)))
    (hsz0 : ∀ k, k < n → (F k).size ≤ m.size) :
    Calls Try.prog 24 #[.agg #[.int .i64 lv, .slice (some ⟨G, 0, none⟩) n cap, .string ByteArray.empty], .string gd, .string m] w fun e w' => e = .returned (.bool (shS lv F L n gd m)) ∧ Below w.heap.size w w' := by
  unfold maxLen at hm hgd
  by_cases he : ((gd.extract 0 lv).toList == (m.extract 0 lv).toList) = true
  · go_enter Try.func24, Try.ntmps24
    go_wp2
    go_quiet (fail)
    go_wp2
    go_ret
    exact ⟨ret_bool (sh_same he), below_drewN ((Below.refl _ _).alloc (Nat.le_refl _) _) _⟩
  · have he' : ((gd.extract 0 lv).toList == (m.extract 0 lv).toList) = false := by simpa using he
    clear he
    go_enter Try.func24, Try.ntmps24
    go_wp2
    go_quiet (fail)
    go_wp2
    go_loopw [22] (fun i wr => ∃ k : Nat, k ≤ n ∧ i = .int .i64 k ∧ covN (Fl F) (Fl L) m.data.toList k = false ∧ Below w.heap.size w wr ∧ w.heap.size < wr.heap.size) (fun i _ => n - (intOf i).toNat)
    case atStart => exact ⟨0, Nat.zero_le _, rfl, rfl, below_drewN ((Below.refl _ _).alloc (Nat.le_refl _) _) _, by simp⟩
    case round =>
      obtain ⟨k, hk, rfl, hcov, hbel, hsz⟩ := hrel
      by_cases hlt : k < n
      · have c1 : wr.cell? ⟨G, k * 2, none⟩ = some (.string (F k)) := (hbel.cell (p := ⟨G, k * 2, none⟩) hG).trans (hF k hlt)
        have c2 : wr.cell? ⟨G, k * 2 + 1, none⟩ = some (.string (L k)) := (hbel.cell (p := ⟨G, k * 2 + 1, none⟩) hG).trans (hL k hlt)
        clear hF hL
        have fit := hsz0 k hlt
        clear hsz0
        cases hc : covS (F k) (L k) m with
        | true =>
          have HC : Hid (covS (F k) (L k) m = true) := hc
          clear hc
          go_wp2_with fail
          refine (covers_any (F k) (L k) m _ fit (by unfold maxLen; omega)).mono ?_
          rintro e w1 ⟨rfl, hb1⟩
          have hB : Below w.heap.size w w1 := (hbel.alloc (Nat.le_of_lt hsz) _).trans (hb1.mono (by simp; omega))
          have hz : w.heap.size < w1.heap.size := by have := hb1.size; simp at this; omega
          clear hb1
          rw [HC.out]
          go_wp2
          go_ret
          exact ⟨ret_bool (sh_hit hlt HC.out), hB⟩
        | false =>
          have HC : Hid (covS (F k) (L k) m = false) := hc
          clear hc
          go_wp2_with fail
          refine (covers_any (F k) (L k) m _ fit (by unfold maxLen; omega)).mono ?_
          rintro e w1 ⟨rfl, hb1⟩
          have hB : Below w.heap.size w w1 := (hbel.alloc (Nat.le_of_lt hsz) _).trans (hb1.mono (by simp; omega))
          have hz : w.heap.size < w1.heap.size := by have := hb1.size; simp at this; omega
          clear hb1
          rw [HC.out]
          go_wp2
          go_roundw
          case rel => exact ⟨k + 1, by omega, by go_num, cov_succ hcov HC.out, hB, hz⟩
          case measure => simp [intOf]; omega
      · have hkn : k = n := by omega
        subst hkn
        go_wp2
        go_ret
        exact ⟨ret_bool (sh_miss he' hcov), hbel⟩
end Go.Proofs.Qxb6603633a
