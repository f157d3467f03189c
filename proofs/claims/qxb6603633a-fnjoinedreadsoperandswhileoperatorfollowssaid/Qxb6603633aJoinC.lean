/- (*parser).joined (23), each operand a group of two. -/
import Derived.Test.Qxb6603633aJoinB
namespace Go.Proofs.Qxb6603633a
open Go.RowKit
set_option linter.unusedVariables false

theorem two_cells {w : World} {g : Nat} {x : Value} (h0 : w.cell? ⟨g, 0, none⟩ = some x) (h1 : w.cell? ⟨g, 1, none⟩ = some x) : ∀ j u, [x, x][j]? = some u → w.cell? ((⟨g, 0, none⟩ : Addr).add j) = some u := by
  intro j u hj
  match j, hj with
  | 0, hj => simp at hj; subst hj; simpa [Addr.add] using h0
  | 1, hj => simp at hj; subst hj; simpa [Addr.add] using h1
  | j + 2, hj => simp at hj

set_option maxHeartbeats 1600000 in
theorem joined_pair {N n : Nat} {K : Nat → Int} {T : Nat → ByteArray} (op : Int) (w : World) (h : JS w N n K T true 0) (hn : n ≤ 65536) :
    Calls Try.prog 23 #[.pointer (some ⟨N + 2, 0, none⟩), .int .i64 op, .func (.func 20) #[] #[.pointer (some ⟨N + 3, 0, none⟩), .pointer (some ⟨N, 0, none⟩)], .func (.func 22) #[] #[]] w fun e w' =>
      ∃ i, Follows n K op i ∧ Below N w w' ∧
        ((2 * i = n ∧ (∃ x, e = .returned (.tuple #[.slice none 0 0, .iface 65 x])) ∧ JS w' N n K T true n) ∨
         (2 * i < n ∧ ¬ (2 * i + 1 < n ∧ K (2 * i + 1) = op) ∧ ∃ v, e = .returned (.tuple #[v, .nilIface]) ∧ JS w' N n K T true (2 * i + 1) ∧ w'.ownsRow (N + 4) 44 1 v (2 * i + 2) (rules2 T (i + 1)))) := by
  obtain ⟨i0, hi, hz0, hz1, hz2⟩ := info_parts Try.info44
  go_enter Try.func23, Try.ntmps23
  go_wp2
  go_loopw [10] (fun v wr => ∃ i, 2 * i ≤ n ∧ Follows n K op i ∧ JS wr N n K T true (2 * i) ∧ wr.ownsRow (N + 4) 44 1 v (2 * i) (rules2 T i) ∧ Below N w wr) (fun v _ => n + 2 - lenV v)
  case atStart => exact ⟨0, Nat.zero_le _, fun t ht => by omega, h, World.ownsRow_nil _ _ _ _, Below.refl _ _⟩
  case round =>
    obtain ⟨i, hin, hfol, hJ, hown, hbel⟩ := hrel
    clear h
    by_cases hlt : 2 * i < n
    · have hsz := hJ.sz
      go_wp2_with fail
      refine (operand_pair _ hJ hlt hn).mono ?_
      rintro e w1 ⟨g, rfl, hg1, hJ1, hgN, hgw, hc0, hc1⟩
      have hown1 := hown.kept hg1 (own_apart hown (by omega))
      have hbel1 : Below N w w1 := hbel.grown hg1 (by omega) (fun k hk => by cases hk; omega)
      clear hJ
      go_wp2_with fail
      refine (inner_pair g _ _).mono ?_
      rintro e w2 ⟨rfl, hb2⟩
      have hJ2 := hJ1.below hb2
      have hown2 := own_below hown1 hb2
      have hbel2 : Below N w w2 := hbel1.trans (hb2.mono (by have := hJ1.sz; omega))
      have hnews := two_cells (x := spV T i) ((hb2.cell (p := ⟨g, 0, none⟩) hgw).trans hc0) ((hb2.cell (p := ⟨g, 1, none⟩) hgw).trans hc1)
      clear hown1 hJ1 hb2 hbel1 hc0 hc1 hgw hgN
      have hsz2 := hJ2.sz
      go_wp2_with (at_builtin; refine wpList_append_own _ rfl _ _ 50 rfl (N + 4) 44 i0 _ 1 16 Try.underlying50 hi hz0 hz1 hz2 rfl (by decide) _ _ _ rfl hown2 ⟨g, 0, none⟩ 2 2 [spV T i, spV T i] rfl rfl hnews (by intro u hu; simp at hu; subst hu; rfl) (by unfold maxLen; omega) (by omega) (by omega) ?_; intro v' w3 hown3 hg3 _)
      have hJ3 : JS w3 N n K T true (2 * i + 1) := hJ2.other hg3 (fun k hk => (hown2.lt k hk).1)
      have hbel3 : Below N w w3 := hbel2.grown hg3 (by omega) (fun k hk => by have := (hown2.lt k hk).1; omega)
      clear hown2 hJ2 hbel2 hg3 hnews
      have hsz3 := hJ3.sz
      by_cases htk : 2 * i + 1 < n ∧ K (2 * i + 1) = op
      · refine (take_yes op _ hJ3 hn htk.1 htk.2).mono ?_
        rintro e w4 ⟨rfl, hg4, hJ4⟩
        have hown4 := hown3.kept hg4 (own_apart hown3 (by omega))
        have hbel4 : Below N w w4 := hbel3.grown hg4 (by omega) (fun k hk => by cases hk; omega)
        have hl1 := lenV_own hown
        have hl4 := lenV_own hown4
        have hfol' := hfol.succ htk.1 htk.2
        obtain ⟨hlt1, _⟩ := htk
        clear hown hown3 hJ3 hbel3 hg4 hfol
        have HL1 : Hid _ := hl1
        have HL4 : Hid _ := hl4
        clear hl1 hl4
        go_wp2
        go_roundw
        case rel => exact ⟨i + 1, by omega, hfol', hJ4, hown4, hbel4⟩
        case measure => rw [HL1.out, HL4.out]; omega
      · refine (take_no op _ hJ3 htk).mono ?_
        rintro e w4 ⟨rfl, hb4⟩
        have hJ4 := hJ3.below hb4
        have hown4 := own_below hown3 hb4
        have hbel4 : Below N w w4 := hbel3.trans (hb4.mono (by omega))
        clear hown3 hJ3 hbel3 hb4
        go_wp2
        go_ret2
        exact ⟨i, hfol, hbel4, .inr ⟨hlt, htk, _, rfl, hJ4, hown4⟩⟩
    · go_wp2_with fail
      refine (operand_end _ hJ (by omega)).mono ?_
      rintro e w1 ⟨⟨x, rfl⟩, hb1⟩
      go_wp2
      go_ret2
      exact ⟨i, hfol, hbel.trans (hb1.mono (by have := hJ.sz; omega)), .inl ⟨by omega, ⟨_, rfl⟩, by have := hJ.below hb1; rwa [show 2 * i = n by omega] at this⟩⟩
end Go.Proofs.Qxb6603633a
