/- The reader: at (17), next (15), digits (16). -/
import Derived.Test.Qxb6604447aProg
import Derived.Test.Qxb6604447aPlain
import Derived.WalkKit
import Derived.WalkSmall
import Derived.RegionTactic
import Derived.ChangeAlike
import Derived.Deep.QuietTactic
import Derived.BigQuiet
namespace Go.Proofs.Qxb6604447a
open Go.RowKit
set_option linter.unusedVariables false

/-- r: the reader's block; the text lies below it. -/
structure RS (w : World) (r : Nat) (a : Option Addr) (n c : Nat) (S : Nat → Int) (pos : Nat) : Prop where
  d : n = 0 ∨ ∃ b o, a = some ⟨b, o, none⟩ ∧ b < r ∧ ∀ k, k < n → w.cell? ⟨b, o + k, none⟩ = some (.int .u8 (S k))
  p0 : w.cell? ⟨r, 0, none⟩ = some (.slice a n c)
  p1 : w.cell? ⟨r, 1, none⟩ = some (.int .i64 pos)
  f1 : w.frozen? ⟨r, 1, none⟩ = false
  sz : r < w.heap.size
  hp : pos ≤ n
  hn : n ≤ 16777216

theorem RS.at {w : World} {r : Nat} {a : Option Addr} {n c : Nat} {S : Nat → Int} {pos : Nat} (h : RS w r a n c S pos) (hk : pos < n) : ∃ b o, a = some ⟨b, o, none⟩ ∧ w.cell? ⟨b, o + pos, none⟩ = some (.int .u8 (S pos)) := by
  rcases h.d with h | ⟨b, o, h, _, hc⟩
  · omega
  · exact ⟨b, o, h, hc pos hk⟩

theorem RS.drawn {w : World} {r : Nat} {a : Option Addr} {n c : Nat} {S : Nat → Int} {pos : Nat} (h : RS w r a n c S pos) (q : Nat) : RS (w.drewN q) r a n c S pos := ⟨h.d, h.p0, h.p1, h.f1, h.sz, h.hp, h.hn⟩

theorem RS.step {w wA : World} {r : Nat} {a : Option Addr} {n c : Nat} {S : Nat → Int} {pos : Nat} (h : RS w r a n c S pos) (hk : pos < n) :
    RS (w.setCell ⟨r, 1, none⟩ (.int .i64 ((pos : Int) + 1))) r a n c S (pos + 1) := by
  refine ⟨?_, ?_, ?_, ?_, by simpa using h.sz, hk, h.hn⟩
  · rcases h.d with h | ⟨b, o, rfl, hb, hc⟩
    · exact .inl h
    · refine .inr ⟨b, o, rfl, hb, fun k hk => ?_⟩
      rw [World.cell?_setCell_other _ _ _ _ (by simp)]
      exact hc k hk
  · rw [World.cell?_setCell_other _ _ _ _ (by simp)]; exact h.p0
  · rw [World.cell?_setCell_same _ _ _ h.p1]; rfl
  · rw [World.frozen?_setCell]; exact h.f1

set_option maxHeartbeats 800000 in
theorem at_end {w : World} {r : Nat} {a : Option Addr} {n c : Nat} {S : Nat → Int} {pos : Nat} (ch : Int) (h : RS w r a n c S pos) (hk : ¬ pos < n) :
    Calls Try.prog 17 #[.pointer (some ⟨r, 0, none⟩), .int .u8 ch] w fun e w' => e = .returned (.bool false) ∧ ∃ q, w' = w.drewN q := by
  have q0 := h.p0
  have q1 := h.p1
  have hd : decide ((pos : Int) < (n : Int)) = false := decide_eq_false (by omega)
  clear h
  go_enter Try.func17, Try.ntmps17
  go_wp2
  go_quiet (fail)
  go_wp2
  go_ret
  exact ⟨rfl, _, rfl⟩

set_option maxHeartbeats 800000 in
theorem at_mid {w : World} {r : Nat} {a : Option Addr} {n c : Nat} {S : Nat → Int} {pos : Nat} (ch : Int) (h : RS w r a n c S pos) (hk : pos < n) :
    Calls Try.prog 17 #[.pointer (some ⟨r, 0, none⟩), .int .u8 ch] w fun e w' => e = .returned (.bool (S pos == ch)) ∧ ∃ q, w' = w.drewN q := by
  have q0 := h.p0
  have q1 := h.p1
  obtain ⟨b, o, rfl, k1⟩ := h.at hk
  have hd : (pos : Int) < (n : Int) := by omega
  clear h
  go_enter Try.func17, Try.ntmps17
  go_wp2
  go_quiet (fail)
  go_wp2
  go_ret
  exact ⟨rfl, _, rfl⟩

/-- What 'next' leaves. -/
def NextPost (w : World) (r : Nat) (a : Option Addr) (n c : Nat) (S : Nat → Int) (pos : Nat) (ch : Int) (e : Ending) (w' : World) : Prop :=
  e = .returned (.bool (nxt ch (tl S n pos))) ∧ ∃ q, RS w' r a n c S q ∧ tl S n q = drp ch (tl S n pos) ∧ Below r w w'

set_option maxHeartbeats 800000 in
theorem next_any {w : World} {r : Nat} {a : Option Addr} {n c : Nat} {S : Nat → Int} {pos : Nat} (ch : Int) (h : RS w r a n c S pos) :
    Calls Try.prog 15 #[.pointer (some ⟨r, 0, none⟩), .int .u8 ch] w fun e w' => NextPost w r a n c S pos ch e w' := by
  by_cases hk : pos < n
  · by_cases he : S pos = ch
    · have hb : (S pos == ch) = true := by simp [he]
      go_enter Try.func15, Try.ntmps15
      go_wp2_with fail
      refine (at_mid ch h hk).mono ?_
      rintro e w1 ⟨rfl, q, rfl⟩
      rw [hb]
      have q1 : (w.drewN q).cell? ⟨r, 1, none⟩ = some (.int .i64 pos) := h.p1
      have f1 : (w.drewN q).frozen? ⟨r, 1, none⟩ = false := h.f1
      have hn := h.hn
      go_wp2
      go_ret
      refine ⟨by rw [tl_cons hk]; simp [nxt, he], pos + 1, (h.drawn q).step (wA := w) hk, by rw [tl_cons hk]; simp [drp, he], ((below_drewN (Below.refl r w) q).setCell (p := ⟨r, 1, none⟩) (Nat.le_refl _) _)⟩
    · have hb : (S pos == ch) = false := by simpa using he
      go_enter Try.func15, Try.ntmps15
      go_wp2_with fail
      refine (at_mid ch h hk).mono ?_
      rintro e w1 ⟨rfl, q, rfl⟩
      rw [hb]
      go_wp2
      go_ret
      exact ⟨by rw [tl_cons hk]; simp [nxt, he], pos, h.drawn q, by rw [tl_cons hk]; simp [drp, he], below_drewN (Below.refl _ _) _⟩
  · go_enter Try.func15, Try.ntmps15
    go_wp2_with fail
    refine (at_end ch h hk).mono ?_
    rintro e w1 ⟨rfl, q, rfl⟩
    go_wp2
    go_ret
    exact ⟨by rw [tl_nil (by omega)]; rfl, pos, h.drawn q, by rw [tl_nil (by omega)]; rfl, below_drewN (Below.refl _ _) _⟩

/-- What 'digits' leaves. -/
def DigPost (w : World) (r : Nat) (a : Option Addr) (n c : Nat) (S : Nat → Int) (pos : Nat) (e : Ending) (w' : World) : Prop :=
  ∃ q, pos ≤ q ∧ e = .returned (.int .i64 ((q : Int) - (pos : Int))) ∧ RS w' r a n c S q ∧ tl S n q = digR (tl S n pos) ∧ (pos < q ↔ hasD (tl S n pos) = true) ∧ Below r w w'

set_option maxHeartbeats 1600000 in
theorem digits_any {w : World} {r : Nat} {a : Option Addr} {n c : Nat} {S : Nat → Int} {pos : Nat} (h : RS w r a n c S pos) :
    Calls Try.prog 16 #[.pointer (some ⟨r, 0, none⟩)] w fun e w' => DigPost w r a n c S pos e w' := by
  have q1 := h.p1
  go_enter Try.func16, Try.ntmps16
  go_wp2
  clear q1
  go_loopw [] (fun wr => ∃ q, pos ≤ q ∧ RS wr r a n c S q ∧ digR (tl S n q) = digR (tl S n pos) ∧ (pos < q → hasD (tl S n pos) = true) ∧ Below r w wr) (fun wr => n - (match wr.cell? ⟨r, 1, none⟩ with | some v => (intOf v).toNat | none => 0))
  case atStart => exact ⟨pos, Nat.le_refl _, h, rfl, fun hh => by omega, Below.refl _ _⟩
  case round =>
    clear h
    obtain ⟨q, hpq, h, hdr, hhd, hbel⟩ := hrel
    have q0 := h.p0
    have q1 := h.p1
    have f1 := h.f1
    have hn := h.hn
    have hqn := h.hp
    by_cases hk : q < n
    · obtain ⟨b, o, rfl, k1⟩ := h.at hk
      have hd : (q : Int) < (n : Int) := by omega
      have htl := tl_cons (S := S) hk
      by_cases h48 : 48 ≤ S q
      · by_cases h57 : S q ≤ 57
        · have hdig : isDig (S q) = true := by simp [isDig, h48, h57]
          have hnew : digR (tl S n (q + 1)) = digR (tl S n pos) := by rw [← hdr, htl]; simp [digR, hdig]
          have hhd' : pos < q + 1 → hasD (tl S n pos) = true := fun _ => by
            by_cases e : pos = q
            · subst e; rw [htl]; exact hdig
            · exact hhd (by omega)
          have H1 : Hid _ := hdr
          have H2 : Hid _ := htl
          have H3 : Hid _ := hhd
          clear hdr htl hhd hdig
          go_wp2
          go_quiet (fail)
          go_wp2
          go_roundw
          case rel => exact ⟨q + 1, by omega, (h.drawn _).step (wA := w) hk, hnew, hhd', (below_drewN hbel _).setCell (p := ⟨r, 1, none⟩) (Nat.le_refl _) _⟩
          case measure =>
            have e2 : ((wr.drewN nq).setCell ⟨r, 1, none⟩ (.int .i64 ((q : Int) + 1))).cell? ⟨r, 1, none⟩ = some (.int .i64 ((q : Int) + 1)) := World.cell?_setCell_same _ _ _ (h.drawn nq).p1
            rw [e2, h.p1]
            simp only [intOf]
            omega
        · have hdig : isDig (S q) = false := by simp [isDig, h57]
          have hd57 : decide (S q ≤ 57) = false := decide_eq_false h57
          have hfin : tl S n q = digR (tl S n pos) := by rw [← hdr, htl]; simp [digR, hdig]
          have hiff : pos < q ↔ hasD (tl S n pos) = true := ⟨hhd, fun hh => by
            by_cases e : pos = q
            · subst e; rw [htl] at hh; simp [hasD, hdig] at hh
            · omega⟩
          clear hdr htl hhd hdig h57
          have H1 : Hid _ := hfin
          have H2 : Hid _ := hiff
          clear hfin hiff
          go_wp2
          go_quiet (fail)
          go_wp2
          go_ret
          exact ⟨q, hpq, by rfl, h.drawn _, H1.out, H2.out, below_drewN hbel _⟩
      · have hdig : isDig (S q) = false := by simp [isDig, h48]
        have hd48 : decide (48 ≤ S q) = false := decide_eq_false h48
        have hfin : tl S n q = digR (tl S n pos) := by rw [← hdr, htl]; simp [digR, hdig]
        have hiff : pos < q ↔ hasD (tl S n pos) = true := ⟨hhd, fun hh => by
          by_cases e : pos = q
          · subst e; rw [htl] at hh; simp [hasD, hdig] at hh
          · omega⟩
        clear hdr htl hhd hdig h48
        have H1 : Hid _ := hfin
        have H2 : Hid _ := hiff
        clear hfin hiff
        go_wp2
        go_quiet (fail)
        go_wp2
        go_ret
        exact ⟨q, hpq, by rfl, h.drawn _, H1.out, H2.out, below_drewN hbel _⟩
    · have hd : decide ((q : Int) < (n : Int)) = false := decide_eq_false (by omega)
      have htl := tl_nil (S := S) (show n ≤ q by omega)
      have hfin : tl S n q = digR (tl S n pos) := by rw [← hdr, htl]; rfl
      have hiff : pos < q ↔ hasD (tl S n pos) = true := ⟨hhd, fun hh => by
        by_cases e : pos = q
        · subst e; rw [htl] at hh; simp [hasD] at hh
        · omega⟩
      clear hdr htl hhd
      have H1 : Hid _ := hfin
      have H2 : Hid _ := hiff
      clear hfin hiff
      go_wp2
      go_quiet (fail)
      go_wp2
      go_ret
      exact ⟨q, hpq, by rfl, h.drawn _, H1.out, H2.out, below_drewN hbel _⟩
end Go.Proofs.Qxb6604447a
