/- The walk of FnShiftsExceptionsActOneByOne (6). -/
import Derived.Test.Qxb6603633aWalkE
import Derived.Deep.RegionWith
import Derived.Deep.RegionHeld3
namespace Go.Proofs.Qxb6603633a
open Go.RowKit
set_option linter.unusedVariables false
open Plain

theorem upto {P : Nat → Prop} {k : Nat} (h : ∀ j, j < k → P j) (hk : P k) : ∀ j, j < k + 1 → P j := by
  intro j hj
  by_cases e : j = k
  · subst e; exact hk
  · exact h j (by omega)

theorem Strs.drewN {w : World} {a : Option Addr} {n c : Nat} {S : Nat → ByteArray} (h : Strs w a n c S) (q : Nat) : Strs (w.drewN q) a n c S := h

/-- The lists with the material's own code behind them. -/
def ownS (S : Nat → ByteArray) (k : Nat) (x : ByteArray) : Nat → ByteArray := fun i => if i < k then S i else x
theorem ownS_lt {S : Nat → ByteArray} {k : Nat} {x : ByteArray} {i : Nat} (h : i < k) : ownS S k x i = S i := if_pos h
theorem ownS_at {S : Nat → ByteArray} {k : Nat} {x : ByteArray} : ownS S k x k = x := if_neg (Nat.lt_irrefl k)

theorem own_refused (v k : Nat) (F L : Nat → ByteArray) (gd m : ByteArray) (h : v ≤ m.size) : shS v (ownS F k (m.extract 0 v)) (ownS L k (m.extract 0 v)) (k + 1) gd m = false := by
  refine (sh_hit (k := k) (Nat.lt_succ_self k) ?_).symm
  rw [ownS_at, ownS_at]
  unfold covS
  rw [extract_take]
  exact covB_own _ _ (by simpa using h)

/-- Two rows of the call's own, a string written into each. -/
theorem two_step {w : World} {B g1 g2 n k : Nat} {xs ys : List Value} {F L : Nat → ByteArray} (h1 : w.ownsRow B 9 1 (.slice (some ⟨g1, 0, none⟩) n n) n xs) (h2 : w.ownsRow B 9 1 (.slice (some ⟨g2, 0, none⟩) n n) n ys) (hne : g1 ≠ g2) (hk : k < n)
    (hx : ∀ j, j < k → xs[j]? = some (.string (F j))) (hy : ∀ j, j < k → ys[j]? = some (.string (L j))) :
    ∃ xs' ys', ((w.setCell ⟨g1, k, none⟩ (.string (F k))).setCell ⟨g2, k, none⟩ (.string (L k))).ownsRow B 9 1 (.slice (some ⟨g1, 0, none⟩) n n) n xs' ∧
      ((w.setCell ⟨g1, k, none⟩ (.string (F k))).setCell ⟨g2, k, none⟩ (.string (L k))).ownsRow B 9 1 (.slice (some ⟨g2, 0, none⟩) n n) n ys' ∧
      (∀ j, j < k + 1 → xs'[j]? = some (.string (F j))) ∧ (∀ j, j < k + 1 → ys'[j]? = some (.string (L j))) := by
  obtain ⟨xs', a1, a2⟩ := row_step h1 hk hx
  have b1 := h2.kept (h1.stored k (.string (F k))).2 (.inr (by simp [Value.ownBlock]; omega))
  obtain ⟨ys', b2, b3⟩ := row_step b1 hk hy
  have a3 := a1.kept (b1.stored k (.string (L k))).2 (.inr (by simp [Value.ownBlock]; omega))
  exact ⟨xs', ys', a3, b2, a2, b3⟩

theorem all_each (v k : Nat) (F L : Nat → ByteArray) (gd m : ByteArray) (B : Bool) (hB : B = shS v F L 0 gd m) : (!(shS v F L k gd m == eachB B (Fl F) (Fl L) m.data.toList k)) = false := by
  rw [eachB_eq, hB]
  simp [shS, shB, covN]

theorem Strs.sub {w : World} {b o n c k : Nat} {S : Nat → ByteArray} (hk : k < n) (hc : n ≤ c) (hb : b < w.heap.size) (h : ∀ j, j < n → w.cell? ⟨b, o + j, none⟩ = some (.string (S j))) :
    Strs w (some ⟨b, o + k, none⟩) 1 (c - k) (fun j => S (k + j)) := by
  refine ⟨by omega, .inr ⟨b, o + k, rfl, hb, fun j hj => ?_⟩⟩
  have := h (k + j) (by omega)
  rw [Nat.add_assoc]; exact this

theorem slice_one {b o k c j : Nat} (h : j + 1 ≤ c) (w : World) : (Instr.slice 23 (.slice (some ⟨b, o, none⟩) k c) (some (.int .i64 j)) (some (.int .i64 ((j : Int) + 1))) none).run Try.prog w = .ok (.slice (some ⟨b, o + j, none⟩) 1 (c - j)) w := by
  have hc : ¬ c = j := by omega
  have h1 : (j : Int) + 1 ≤ (c : Int) := by omega
  have h2 : (j : Int) ≤ (j : Int) + 1 := by omega
  rw [run_slice_lh w 23 _ _ _ (by kernel_rfl) .i64 .i64 _ _ (by omega) h2 h1]
  rw [show (sizeOf (Try.prog.elem 23)).run Try.prog w = .ok 1 w from by kernel_rfl]
  simp [Result.andThen, sliced, hc, Addr.add]

theorem one_eq (v : Nat) (F L : Nat → ByteArray) (gd m : ByteArray) (k : Nat) : shS v (fun j => F (k + j)) (fun j => L (k + j)) 1 gd m = (shS v F L 0 gd m && !covS (F k) (L k) m) := by
  simp [shS, shB, covN, Fl, covS]

/-- What one round of the second loop does. -/
theorem round_key (v : Nat) (F L : Nat → ByteArray) (gd m : ByteArray) (k : Nat) (B : Bool) (hB : B = shS v F L 0 gd m) : ∃ O le : Bool, shS v (fun j => F (k + j)) (fun j => L (k + j)) 1 gd m = O ∧ leS (F k) (L k) = le ∧ (le = false → O = B) ∧
    eachB B (Fl F) (Fl L) m.data.toList (k + 1) = (if O then eachB B (Fl F) (Fl L) m.data.toList k else false) := by
  refine ⟨_, _, rfl, rfl, fun h => ?_, ?_⟩
  · rw [one_eq, ← hB]
    have : covS (F k) (L k) m = false := covB_reversed _ _ _ h
    simp [this]
  · rw [one_eq, ← hB]; rfl

theorem less_at {a b : ByteArray} {r : Bool} (h : leS a b = r) (w : World) (ha : a.size ≤ maxLen) : Calls Try.prog 19 #[.string a, .string b] w fun e w' => e = .returned (.bool r) ∧ ∃ n, w' = w.drewN n := by
  subst h; exact less_any a b w ha

theorem key_cases {O le B : Bool} (h : le = false → O = B) : (le = true ∧ O = true) ∨ (le = true ∧ O = false) ∨ (le = false ∧ O = B ∧ B = true) ∨ (le = false ∧ O = B ∧ B = false) := by
  cases le <;> cases O <;> cases B <;> simp_all

theorem bare_eq (v : Nat) (F L : Nat → ByteArray) (gd m : ByteArray) (h1 : v ≤ gd.size) (h2 : v ≤ m.size) : shS v F L 0 gd m = decide (cpS gd m < v) := by
  unfold shS shB cpS
  rw [diff_iff v _ _ (by simpa using h1) (by simpa using h2)]
  simp [covN]

set_option maxRecDepth 100000 in
set_option maxHeartbeats 4000000 in
theorem law6_walk (lv : Int) (a a' : Option Addr) (n n' c c' : Nat) (F L : Nat → ByteArray) (gd m : ByteArray) (w : World) (hF : Strs w a n c F) (hL : Strs w a' n' c' L) (hz : a = none → n = 0) (hz' : a' = none → n' = 0) (hn : n ≤ maxLen) (hn' : n' ≤ maxLen) (hgd : gd.size ≤ maxLen) (hm : m.size ≤ maxLen) :
    Calls Try.prog 6 #[.int .i64 lv, .slice a n c, .slice a' n' c', .string gd, .string m] w fun e w' => e = .returned (.bool true) ∧ Below w.heap.size w w' := by
  go_enter Try.func6, Try.ntmps6
  go_wp2_with fail
  refine (bytes18_any lv a a' n n' c c' F L gd m w hF hL hn hn' hgd hm).mono ?_
  rintro e w1 ⟨r, rfl, rfl⟩
  cases r with
  | false =>
    go_wp2
    go_ret
    exact ⟨rfl, Below.refl _ _⟩
  | true =>
    by_cases hb : gd.size ≤ 65536 ∧ m.size ≤ 65536 ∧ n ≤ 4096 ∧ n' ≤ 4096
    · obtain ⟨b1, b2, b3, b4⟩ := hb
      go_wp2_with fail
      refine (sizeOK_any a a' n n' c c' F L gd m w1 hF hL hn hn' b1 b2).mono ?_
      rintro e w1 ⟨r, rfl, rfl⟩
      cases r with
      | false =>
        go_wp2
        go_ret
        exact ⟨rfl, Below.refl _ _⟩
      | true =>
        by_cases hnn : n = n'
        · subst hnn
          by_cases hl : 0 ≤ lv ∧ lv ≤ gd.size ∧ lv ≤ m.size
          · obtain ⟨hl0, hl1, hl2⟩ := hl
            obtain ⟨v, rfl⟩ := Int.eq_ofNat_of_zero_le hl0
            go_wp2
            go_loop [11] (fun i => ∃ k : Nat, k ≤ n ∧ i = .int .i64 k ∧ ∀ j, j < k → (F j).size ≤ m.size) (fun i => n - (intOf i).toNat)
            case atStart => exact ⟨0, Nat.zero_le _, rfl, fun j hj => by omega⟩
            case round =>
              obtain ⟨k, hk, rfl, hsz⟩ := hrel
              by_cases hlt : k < n
              · obtain ⟨b, o, rfl, c1⟩ := hF.at k hlt
                go_wp2
                · go_ret
                  exact ⟨rfl, Below.refl _ _⟩
                · have hle : (F k).size ≤ m.size := by omega
                  go_round
                  case rel => exact ⟨k + 1, by omega, by go_num, upto hsz hle⟩
                  case measure => simp [intOf]; omega
              · obtain rfl : k = n := by omega
                clear hlt hk
                go_wp2_with fail
                refine (clone_any a k c F w1 (by omega) hz hF).mono ?_
                rintro e w2 ⟨a2, c2, rfl, hF2, hB2⟩
                go_wp2_with fail
                refine (clone_any a' k c' L w2 (by omega) hz' (hL.below hB2)).mono ?_
                rintro e w3 ⟨a3, c3, rfl, hL3, hB3⟩
                replace hF2 := hF2.below hB3
                replace hB3 : Below w1.heap.size w1 w3 := hB2.trans (hB3.mono hB2.size)
                clear hF hL hz hz' hB2
                go_wp2_with fail
                refine (zzshifts_any v none none 0 0 0 F L gd m w3 (by omega) (by omega) hgd hm (by omega) ⟨Nat.le_refl _, .inl rfl⟩ ⟨Nat.le_refl _, .inl rfl⟩ (fun j hj => by omega)).mono ?_
                rintro e w4 ⟨rfl, hB4⟩
                obtain ⟨B, hBd⟩ : ∃ B, B = shS v F L 0 gd m := ⟨_, rfl⟩
                rw [← hBd]
                have HB : Hid (B = shS v F L 0 gd m) := hBd
                have hcp : (!(B == decide (cpS gd m < v))) = false := by rw [hBd, bare_eq v F L gd m (by omega) (by omega)]; simp
                clear hBd
                replace hF2 := hF2.below hB4
                replace hL3 := hL3.below hB4
                replace hB4 : Below w1.heap.size w1 w4 := hB3.trans (hB4.mono hB3.size)
                clear hB3
                go_wp2_with fail
                refine (common_any gd m w4 hgd).mono ?_
                rintro e w5 ⟨rfl, nq, rfl⟩
                go_wp2_with fail
                refine (zzshifts_any v a2 a3 k c2 c3 F L gd m (w4.drewN nq) (by omega) (by omega) hgd hm (by omega) hF2 hL3 hsz).mono ?_
                rintro e w6 ⟨rfl, hB6⟩
                replace hF2 : Strs w6 a2 k c2 F := Strs.below (w := w4.drewN nq) hF2 hB6
                replace hL3 : Strs w6 a3 k c3 L := Strs.below (w := w4.drewN nq) hL3 hB6
                replace hB6 : Below w1.heap.size w1 w6 := (below_drewN hB4 nq).trans (hB6.mono hB4.size)
                clear hB4 hcp
                go_wp2_with fail
                go_loopw [14, 15] (fun e i wr => ∃ j : Nat, j ≤ k ∧ i = .int .i64 j ∧ e = .bool (eachB B (Fl F) (Fl L) m.data.toList j) ∧ Strs wr a2 k c2 F ∧ Strs wr a3 k c3 L ∧ Below w1.heap.size w1 wr) (fun _ i _ => k - (intOf i).toNat)
                case atStart => exact ⟨0, Nat.zero_le _, rfl, rfl, hF2, hL3, hB6⟩
                case round =>
                  clear hF2 hL3 hB6
                  obtain ⟨j, hj, rfl, rfl, hF2, hL3, hB6⟩ := hrel
                  by_cases hlt : j < k
                  · obtain ⟨O, le, e1, e2, e3, e4⟩ := round_key v F L gd m j B HB.out
                    have E1 : Hid (shS v (fun i => F (j + i)) (fun i => L (j + i)) 1 gd m = O) := e1
                    have E2 : Hid (leS (F j) (L j) = le) := e2
                    have E4 : Hid (eachB B (Fl F) (Fl L) m.data.toList (j + 1) = (if O then eachB B (Fl F) (Fl L) m.data.toList j else false)) := e4
                    clear e1 e2 e4
                    obtain ⟨b2', o2, rfl, hb2, cF⟩ := hF2.2.resolve_left (by omega)
                    obtain ⟨b3', o3, rfl, hb3, cL⟩ := hL3.2.resolve_left (by omega)
                    have sF := Strs.sub (w := wr.drew) hlt hF2.1 hb2 cF
                    have sL := Strs.sub (w := wr.drew) hlt hL3.1 hb3 cL
                    have x1 := hF2.1
                    have x2 := hL3.1
                    have d1 : (j : Int) < (k : Int) := by omega
                    have s2 := slice_one (b := b2') (o := o2) (k := k) (c := c2) (j := j) (by omega)
                    have s3 := slice_one (b := b3') (o := o3) (k := k) (c := c3) (j := j) (by omega)
                    have hw : IntKind.i64.wrap ((j : Int) + 1) = (j : Int) + 1 := by rw [IntKind.wrap_i64]; omega
                    have d2 : (j : Int) + 1 ≤ (c2 : Int) := by omega
                    have d3 : (j : Int) + 1 ≤ (c3 : Int) := by omega
                    have hsz1 : ∀ i, i < 1 → (F (j + i)).size ≤ m.size := fun i hi => hsz (j + i) (by omega)
                    have hszj : (F j).size ≤ maxLen := by have := hsz j hlt; unfold maxLen at hm ⊢; omega
                    have cFj := cF j hlt
                    have cLj := cL j hlt
                    clear hsz cF cL
                    rcases key_cases e3 with ⟨rfl, rfl⟩ | ⟨rfl, rfl⟩ | ⟨rfl, rfl, rfl⟩ | ⟨rfl, rfl, rfl⟩
                    all_goals
                      clear e3
                      go_wp2_with fail
                      go_region_held3 (fun _ => True) (trivial) ((go_at_call 15; refine (zzshifts_any v _ _ 1 _ _ (fun i => F (j + i)) (fun i => L (j + i)) gd m _ (by omega) (by omega) hgd hm (by omega) sF sL hsz1).mono ?_; rintro e w7 ⟨he, hB7⟩; rw [E1.out] at he; subst he))
                      have hF7 := Strs.drewN (hF2.below (w := wr.drew) hB7)
                      have hL7 := Strs.drewN (hL3.below (w := wr.drew) hB7)
                      have hB7' : Below w1.heap.size w1 w7 := hB6.drew.trans (hB7.mono hB6.size)
                      have cF7 : w7.cell? ⟨b2', o2 + j, none⟩ = some (.string (F j)) := (hB7.cell (p := ⟨b2', o2 + j, none⟩) hb2).trans cFj
                      have cL7 : w7.cell? ⟨b3', o3 + j, none⟩ = some (.string (L j)) := (hB7.cell (p := ⟨b3', o3 + j, none⟩) hb3).trans cLj
                      go_wp2
                      go_quiet ((go_at_call 19; exact Calls.quiet_of (less_at E2.out _ hszj)))
                      go_wp2
                      go_roundw
                      case rel => exact ⟨j + 1, by omega, by go_num, by rw [E4.out]; rfl, hF7 _, hL7 _, below_drewN hB7' _⟩
                      case measure => simp [intOf]; omega
                  · obtain rfl : j = k := by omega
                    have hae := all_each v j F L gd m B HB.out
                    obtain ⟨i0, hi, hz0, hz1, hz2⟩ := info_parts Try.info9
                    have tok1 : True := trivial
                    go_wp2_with (first
                      | (at_make; have _t := tok1; refine wpList_make_full _ rfl _ _ 23 rfl wr.heap.size 9 i0 _ 1 Try.underlying23 hi hz0 hz1 .i64 .i64 ((j : Int) + 1) ((j : Int) + 1) (j + 1) rfl rfl (by omega) (by omega) (by rw [hz2]; omega) (by unfold maxLen; omega) (Nat.le_refl _) ?_; intro w8 hown8 hgrow8; clear tok1)
                      | (at_make; refine wpList_make_full _ rfl _ _ 23 rfl wr.heap.size 9 i0 _ 1 Try.underlying23 hi hz0 hz1 .i64 .i64 ((j : Int) + 1) ((j : Int) + 1) (j + 1) rfl rfl (by omega) (by omega) (by rw [hz2]; omega) (by unfold maxLen; omega) hgrow8.size ?_; intro w9 hown9 hgrow9))
                    obtain ⟨wo, rfl⟩ : ∃ wo : World, wo = wr := ⟨_, rfl⟩
                    have hg12 : wo.heap.size < w8.heap.size := (hown8.lt wo.heap.size rfl).2
                    have hB9 : Below wo.heap.size wo w9 := ((Below.refl wo.heap.size wo).grown hgrow8 (Nat.le_refl _) (fun k h => by cases h)).grown hgrow9 (Nat.le_of_lt hg12) (fun k h => by cases h)
                    have hown8' := hown8.kept hgrow9 (.inr (by simp [Value.ownBlock]))
                    clear hown8 hgrow8 hgrow9 hae
                    go_loopw [19] (fun i W => ∃ (t : Nat) (xs ys : List Value), t ≤ j ∧ i = .int .i64 t ∧ W.ownsRow wo.heap.size 9 1 (.slice (some ⟨wo.heap.size, 0, none⟩) (j + 1) (j + 1)) (j + 1) xs ∧ W.ownsRow wo.heap.size 9 1 (.slice (some ⟨w8.heap.size, 0, none⟩) (j + 1) (j + 1)) (j + 1) ys ∧
                        (∀ q, q < t → xs[q]? = some (.string (F q))) ∧ (∀ q, q < t → ys[q]? = some (.string (L q))) ∧ Below wo.heap.size wo W) (fun i _ => j - (intOf i).toNat)
                    case atStart => exact ⟨0, _, _, Nat.zero_le _, rfl, hown8', hown9, fun q hq => by omega, fun q hq => by omega, hB9⟩
                    case round =>
                      clear hown8' hown9 hB9
                      obtain ⟨t, xs, ys, ht, rfl, hx, hy, fx, fy, hbel⟩ := hrel
                      obtain ⟨u1, k1⟩ := own_cell hx (k := t) (by omega)
                      obtain ⟨u2, k2⟩ := own_cell hy (k := t) (by omega)
                      have z1 := hx.frozenAt t
                      have z2 := hy.frozenAt t
                      by_cases hlt : t < j
                      · obtain ⟨b2', o2, rfl, hb2, cF⟩ := hF2.2.resolve_left (by omega)
                        obtain ⟨b3', o3, rfl, hb3, cL⟩ := hL3.2.resolve_left (by omega)
                        have m1 : wr.cell? ⟨b2', o2 + t, none⟩ = some (.string (F t)) := (hbel.cell (p := ⟨b2', o2 + t, none⟩) hb2).trans (cF t hlt)
                        have m2 : wr.cell? ⟨b3', o3 + t, none⟩ = some (.string (L t)) := (hbel.cell (p := ⟨b3', o3 + t, none⟩) hb3).trans (cL t hlt)
                        obtain ⟨xs', ys', r1, r2, r3, r4⟩ := two_step hx hy (by omega) (by omega) fx fy
                        have hbel' := (hbel.setCell (p := ⟨wo.heap.size, t, none⟩) (Nat.le_refl _) (.string (F t))).setCell (p := ⟨w8.heap.size, t, none⟩) (Nat.le_of_lt hg12) (.string (L t))
                        clear hF2 hL3 hx hy fx fy hbel cF cL hsz
                        go_wp2
                        go_roundw
                        case rel => exact ⟨t + 1, xs', ys', by omega, by go_num, r1, r2, r3, r4, hbel'⟩
                        case measure => simp [intOf]; omega
                      · obtain rfl : t = j := by omega
                        obtain ⟨xs', ys', r1, r2, r3, r4⟩ := two_step (F := ownS F t (m.extract 0 v)) (L := ownS L t (m.extract 0 v)) (k := t) hx hy (by omega) (by omega) (fun q hq => by rw [fx q hq, ownS_lt hq]) (fun q hq => by rw [fy q hq, ownS_lt hq])
                        rw [ownS_at, ownS_at] at r1 r2
                        have hbel' := (hbel.setCell (p := ⟨wo.heap.size, t, none⟩) (Nat.le_refl _) (.string (m.extract 0 v))).setCell (p := ⟨w8.heap.size, t, none⟩) (Nat.le_of_lt hg12) (.string (m.extract 0 v))
                        have hs1 := row_strs r1 (Nat.le_refl _) r3
                        have hs2 := row_strs r2 (Nat.le_refl _) r4
                        have hszo : ∀ q, q < t + 1 → (ownS F t (m.extract 0 v) q).size ≤ m.size := by
                          intro q hq
                          by_cases e : q < t
                          · rw [ownS_lt e]; exact hsz q e
                          · obtain rfl : q = t := by omega
                            rw [ownS_at]; simp; omega
                        clear hx hy fx fy r1 r2 r3 r4 hF2 hL3 hsz
                        go_wp2_with fail
                        refine (zzshifts_any v _ _ (t + 1) _ _ (ownS F t (m.extract 0 v)) (ownS L t (m.extract 0 v)) gd m _ (by omega) (by omega) hgd hm (by omega) hs1 hs2 hszo).mono ?_
                        rintro e w10 ⟨he, hB10⟩
                        rw [own_refused v t F L gd m (by omega)] at he
                        subst he
                        go_wp2
                        go_ret
                        exact ⟨rfl, hB6.trans ((hbel'.trans (hB10.mono hbel'.size)).mono hB6.size)⟩
          · go_wp2
            all_goals (go_ret; exact ⟨rfl, Below.refl _ _⟩)
        · have hnb : ((n : Int) != (n' : Int)) = true := by rw [bne_iff_ne]; omega
          go_wp2
          go_ret
          exact ⟨rfl, Below.refl _ _⟩
    · go_wp2
      all_goals (go_ret; exact ⟨rfl, Below.refl _ _⟩)
end Go.Proofs.Qxb6603633a
