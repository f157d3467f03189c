/- ZZJoined (11). -/
import Derived.Test.Qxb6603633aJoinD
namespace Go.Proofs.Qxb6603633a
open Go.RowKit
set_option linter.unusedVariables false

theorem Try.info38 : (Try.prog.info? 38).map (fun i => (i.zero, i.size, i.bytes)) = some (some (.agg #[.int .i64 0, .string { data := #[] }]), 2, 24) := by kernel_rfl

/-- A slice of ints as it can be read: n numbers K 0 .. K (n - 1). -/
def Ints (w : World) (a : Option Addr) (n c : Nat) (K : Nat → Int) : Prop :=
  n ≤ c ∧ (n = 0 ∨ ∃ b o, a = some ⟨b, o, none⟩ ∧ b < w.heap.size ∧ ∀ k, k < n → w.cell? ⟨b, o + k, none⟩ = some (.int .i64 (K k)))
theorem Ints.below {w w' : World} {a : Option Addr} {n c : Nat} {K : Nat → Int} (h : Ints w a n c K) (hb : Below w.heap.size w w') : Ints w' a n c K := by
  rcases h.2 with h0 | ⟨b, o, rfl, hlt, hc⟩
  · exact ⟨h.1, .inl h0⟩
  · exact ⟨h.1, .inr ⟨b, o, rfl, Nat.lt_of_lt_of_le hlt hb.size, fun k hk => (hb.cell (p := ⟨b, o + k, none⟩) hlt).trans (hc k hk)⟩⟩
theorem Ints.at {w : World} {a : Option Addr} {n c : Nat} {K : Nat → Int} (h : Ints w a n c K) (k : Nat) (hk : k < n) : ∃ b o, a = some ⟨b, o, none⟩ ∧ b < w.heap.size ∧ w.cell? ⟨b, o + k, none⟩ = some (.int .i64 (K k)) := by
  rcases h.2 with h | ⟨b, o, h, hb, hc⟩
  · omega
  · exact ⟨b, o, h, hb, hc k hk⟩
theorem Strs.at' {w : World} {a : Option Addr} {n c : Nat} {S : Nat → ByteArray} (h : Strs w a n c S) (k : Nat) (hk : k < n) : ∃ b o, a = some ⟨b, o, none⟩ ∧ b < w.heap.size ∧ w.cell? ⟨b, o + k, none⟩ = some (.string (S k)) := by
  rcases h.2 with h | ⟨b, o, h, hb, hc⟩
  · omega
  · exact ⟨b, o, h, hb, hc k hk⟩

theorem Strs.drawn {w : World} {a : Option Addr} {n c : Nat} {S : Nat → ByteArray} (h : Strs w a n c S) (q : Nat) : Strs (w.drewN q) a n c S := h
theorem Ints.drawn {w : World} {a : Option Addr} {n c : Nat} {K : Nat → Int} (h : Ints w a n c K) (q : Nat) : Ints (w.drewN q) a n c K := h

/-- One token written into a row of the call's own. -/
theorem tok_step {w : World} {B : Nat} {g n cap k : Nat} {xs : List Value} {K : Nat → Int} {T : Nat → ByteArray} (h : w.ownsRow B 38 2 (.slice (some ⟨g, 0, none⟩) n cap) n xs) (hk : k < n)
    (hx : ∀ j, j < k → xs[j * 2]? = some (.int .i64 (K j)) ∧ xs[j * 2 + 1]? = some (.string (T j))) :
    ∃ ys, ((w.setCell ⟨g, k * 2, none⟩ (.int .i64 (K k))).setCell ⟨g, k * 2 + 1, none⟩ (.string (T k))).ownsRow B 38 2 (.slice (some ⟨g, 0, none⟩) n cap) n ys ∧ ∀ j, j < k + 1 → ys[j * 2]? = some (.int .i64 (K j)) ∧ ys[j * 2 + 1]? = some (.string (T j)) := by
  have hl : xs.length = n * 2 := h.1
  have h1 := (h.stored (k * 2) (.int .i64 (K k))).1
  have h2 := (h1.stored (k * 2 + 1) (.string (T k))).1
  refine ⟨_, h2, fun j hj => ?_⟩
  by_cases e : j = k
  · subst e
    rw [List.getElem?_set_ne (by omega), List.getElem?_set_self (by omega), List.getElem?_set_self (by simp; omega)]
    exact ⟨rfl, rfl⟩
  · have := hx j (by omega)
    rw [List.getElem?_set_ne (by omega), List.getElem?_set_ne (by omega), List.getElem?_set_ne (by omega), List.getElem?_set_ne (by omega)]
    exact this

/-- What ZZJoined answers and leaves. -/
def ZPost (w : World) (n : Nat) (K : Nat → Int) (T : Nat → ByteArray) (p : Bool) (op : Int) (e : Ending) (w' : World) : Prop :=
  ∃ i, Follows n K op i ∧ Below w.heap.size w w' ∧
    ((2 * i = n ∧ e = .returned (.tuple #[.slice none 0 0, .int .i64 (n : Int), .bool true])) ∨
     (2 * i < n ∧ ¬ (2 * i + 1 < n ∧ K (2 * i + 1) = op) ∧ ∃ g cap, e = .returned (.tuple #[.slice (some ⟨g, 0, none⟩) (Lof p i) cap, .int .i64 ((2 * i + 1 : Nat) : Int), .bool false]) ∧ Strs w' (some ⟨g, 0, none⟩) (Lof p i) cap (Xof T p)))

theorem JS_start {wr : World} {N n : Nat} {K : Nat → Int} {T : Nat → ByteArray} {p : Bool} (hsz : wr.heap.size = N + 2) (hpb : wr.cell? ⟨N, 0, none⟩ = some (.bool p)) (gK : ∀ j, j < n → wr.cell? ⟨N + 1, j * 2, none⟩ = some (.int .i64 (K j))) (gT : ∀ j, j < n → wr.cell? ⟨N + 1, j * 2 + 1, none⟩ = some (.string (T j))) :
    JS ((wr.alloc (.cells #[.slice (some ⟨N + 1, 0, none⟩) n n, .int .i64 0, .pointer none, .int .i64 0] 42)).alloc (.cells #[.pointer (some ⟨N + 2, 0, none⟩)] 39)) N n K T p 0 := by
  have hs1 : (wr.alloc (.cells #[.slice (some ⟨N + 1, 0, none⟩) n n, .int .i64 0, .pointer none, .int .i64 0] 42)).heap.size = N + 3 := by simp [hsz]
  refine ⟨?_, fun k hk => ?_, fun k hk => ?_, ?_, ?_, ?_, ?_, ?_⟩
  · rw [World.cell?_alloc_past _ _ _ (by omega), World.cell?_alloc_past _ _ _ (by omega)]; exact hpb
  · rw [World.cell?_alloc_past _ _ _ (by omega), World.cell?_alloc_past _ _ _ (by omega)]; exact gK k hk
  · rw [World.cell?_alloc_past _ _ _ (by omega), World.cell?_alloc_past _ _ _ (by omega)]; exact gT k hk
  · rw [World.cell?_alloc_past _ _ _ (by omega), World.cell?_alloc_at _ _ _ _ (by omega)]; rfl
  · rw [World.cell?_alloc_past _ _ _ (by omega), World.cell?_alloc_at _ _ _ _ (by omega)]; rfl
  · rw [(((Below.refl _ _).alloc (Nat.le_refl _) _ : Below (wr.alloc (.cells #[.slice (some ⟨N + 1, 0, none⟩) n n, .int .i64 0, .pointer none, .int .i64 0] 42)).heap.size _ _).frozen (p := ⟨N + 2, 1, none⟩) (by show N + 2 < _; omega))]
    rw [← hsz]; simp
  · rw [World.cell?_alloc_at _ _ _ _ (by omega)]; rfl
  · simp [hsz]

theorem cell_one_at (w : World) (x : Value) (t : TypeId) (n : Nat) (hn : n = w.heap.size) : ∀ j u, [x][j]? = some u → (w.alloc (.cells #[x] t)).cell? ((⟨n, 0, none⟩ : Addr).add j) = some u := by
  subst hn; exact cell_one_new w x t
theorem Lof_le (p : Bool) (i : Nat) : Lof p i ≤ 2 * i + 2 := by unfold Lof; split <;> omega
theorem Lof_pos (p : Bool) (i : Nat) : 1 ≤ Lof p i := by unfold Lof; split <;> omega

/-- One name more. -/
theorem names_step {X : Nat → ByteArray} {t : Nat} {xs : List Value} (hl : xs.length = t * 1) (hx : ∀ j, j < t → xs[j]? = some (.string (X j))) : ∀ j, j < t + 1 → (xs ++ [.string (X t)])[j]? = some (.string (X j)) := by
  intro j hj
  by_cases e : j = t
  · subst e; rw [List.getElem?_append_right (by omega)]; simp [hl]
  · rw [List.getElem?_append_left (by omega)]; exact hx j (by omega)

set_option maxHeartbeats 3200000 in
theorem zzjoined_any (a a' : Option Addr) (n c c' : Nat) (K : Nat → Int) (T : Nat → ByteArray) (p : Bool) (op : Int) (w : World) (hn : n ≤ 65536) (hK : Ints w a n c K) (hT : Strs w a' n c' T) :
    Calls Try.prog 11 #[.slice a n c, .slice a' n c', .int .i64 op, .bool p] w fun e w' => ZPost w n K T p op e w' := by
  obtain ⟨i0, hi, hz0, hz1, hz2⟩ := info_parts Try.info38
  go_enter Try.func11, Try.ntmps11
  go_wp2_with (at_make; refine wpList_make_whole _ rfl _ _ 35 rfl 38 i0 _ Try.underlying35 hi hz0 .i64 .i64 n rfl rfl (by rw [hz2]; omega) hn ?_)
  have hown0 : ((w.alloc (.cells #[.bool p] 4)).alloc (.cells (madeCells #[.int .i64 0, .string { data := #[] }] (n * 2)) 38)).ownsRow (w.heap.size + 1) 38 2 (.slice (some ⟨w.heap.size + 1, 0, none⟩) n n) n (madeCells #[.int .i64 0, .string { data := #[] }] (n * 2)).toList := by
    have := World.ownsRow_lit (base := w.heap.size + 1) (e := 38) (size := 2) (w.alloc (.cells #[.bool p] 4)) (madeCells #[.int .i64 0, .string { data := #[] }] (n * 2)) n (by simp) (by unfold maxLen; omega) (size_madeCells _ _)
    rwa [show (w.alloc (.cells #[.bool p] 4)).heap.size = w.heap.size + 1 by simp] at this
  have hbel0 : Below w.heap.size w ((w.alloc (.cells #[.bool p] 4)).alloc (.cells (madeCells #[.int .i64 0, .string { data := #[] }] (n * 2)) 38)) := ((Below.refl _ _).alloc (Nat.le_refl _) _).alloc (by simp) _
  have hpb0 : ((w.alloc (.cells #[.bool p] 4)).alloc (.cells (madeCells #[.int .i64 0, .string { data := #[] }] (n * 2)) 38)).cell? ⟨w.heap.size, 0, none⟩ = some (.bool p) := by
    rw [World.cell?_alloc_past _ _ _ (by simp), World.cell?_alloc_at _ _ _ _ rfl]; rfl
  go_loopw [12] (fun i wr => ∃ (k : Nat) (xs : List Value), k ≤ n ∧ i = .int .i64 k ∧ wr.ownsRow (w.heap.size + 1) 38 2 (.slice (some ⟨w.heap.size + 1, 0, none⟩) n n) n xs ∧ (∀ j, j < k → xs[j * 2]? = some (.int .i64 (K j)) ∧ xs[j * 2 + 1]? = some (.string (T j))) ∧ Below w.heap.size w wr ∧ wr.heap.size = w.heap.size + 2 ∧ wr.cell? ⟨w.heap.size, 0, none⟩ = some (.bool p)) (fun i _ => n - (intOf i).toNat)
  case atStart => exact ⟨0, _, Nat.zero_le _, rfl, hown0, fun j hj => by omega, hbel0, by simp, hpb0⟩
  case round =>
    clear hown0 hbel0 hpb0
    obtain ⟨k, xs, hk, rfl, hown, hxs, hbel, hsz, hpb⟩ := hrel
    by_cases hlt : k < n
    · obtain ⟨b, o, rfl, hb, hcK⟩ := hK.at k hlt
      obtain ⟨b', o', rfl, hb', hcT⟩ := hT.at' k hlt
      have c1 : wr.cell? ⟨b, o + k, none⟩ = some (.int .i64 (K k)) := (hbel.cell (p := ⟨b, o + k, none⟩) hb).trans hcK
      have c2 : wr.cell? ⟨b', o' + k, none⟩ = some (.string (T k)) := (hbel.cell (p := ⟨b', o' + k, none⟩) hb').trans hcT
      have hlz : (k : Int) < (n : Int) := by omega
      obtain ⟨u, c3⟩ := own_cell2 (k := k * 2) hown (by omega)
      obtain ⟨u', c4⟩ := own_cell2 (k := k * 2 + 1) hown (by omega)
      have f3 := hown.frozenAt (k * 2)
      have f4 := hown.frozenAt (k * 2 + 1)
      obtain ⟨ys, hown', hys⟩ := tok_step hown hlt hxs
      have hbel' : Below w.heap.size w ((wr.setCell ⟨w.heap.size + 1, k * 2, none⟩ (.int .i64 (K k))).setCell ⟨w.heap.size + 1, k * 2 + 1, none⟩ (.string (T k))) := (hbel.setCell (p := ⟨w.heap.size + 1, k * 2, none⟩) (Nat.le_succ _) _).setCell (p := ⟨w.heap.size + 1, k * 2 + 1, none⟩) (Nat.le_succ _) _
      have hpb' : ((wr.setCell ⟨w.heap.size + 1, k * 2, none⟩ (.int .i64 (K k))).setCell ⟨w.heap.size + 1, k * 2 + 1, none⟩ (.string (T k))).cell? ⟨w.heap.size, 0, none⟩ = some (.bool p) := by
        rw [World.cell?_setCell_other _ _ _ _ (by simp), World.cell?_setCell_other _ _ _ _ (by simp)]; exact hpb
      have HZ : Hid (wr.heap.size = w.heap.size + 2) := hsz
      clear hK hT hxs hown hbel hsz hpb
      go_wp2
      go_region
      go_wp2
      go_roundw
      case rel => exact ⟨k + 1, ys, by omega, by go_num, hown'.drew, hys, hbel'.drew, by simpa using HZ.out, hpb'⟩
      case measure => simp [intOf]; omega
    · obtain rfl : k = n := by omega
      have gK : ∀ j, j < k → wr.cell? ⟨w.heap.size + 1, j * 2, none⟩ = some (.int .i64 (K j)) := fun j hj => by rw [hown.cellAt _ (by omega)]; exact (hxs j hj).1
      have gT : ∀ j, j < k → wr.cell? ⟨w.heap.size + 1, j * 2 + 1, none⟩ = some (.string (T j)) := fun j hj => by rw [hown.cellAt _ (by omega)]; exact (hxs j hj).2
      clear hK hT hxs hown hk hlt
      have hJ := JS_start (n := k) hsz hpb gK gT
      have hbW : Below w.heap.size w ((wr.alloc (.cells #[.slice (some ⟨w.heap.size + 1, 0, none⟩) k k, .int .i64 0, .pointer none, .int .i64 0] 42)).alloc (.cells #[.pointer (some ⟨w.heap.size + 2, 0, none⟩)] 39)) := (hbel.alloc (by omega) _).alloc (by simp; omega) _
      go_wp2_with fail
      refine (joined_any p op _ hJ hn).mono ?_
      rintro e w2 ⟨i, hf, hb, ⟨h1, ⟨x, rfl⟩, hJ2⟩ | ⟨h1, h2, g, cap, R, rfl, hJ2, hown, hR⟩⟩
      · have q1 := hJ2.p1
        have qv := hJ2.pv
        have hB := hbW.trans hb
        clear hJ hJ2 hbW hb hbel gK gT hpb hsz
        go_wp2
        go_quiet (fail)
        go_wp2
        go_ret3
        exact ⟨i, hf, below_drewN hB _, .inl ⟨h1, rfl⟩⟩
      · have hB := hbW.trans hb
        have hsz2 := hJ2.sz
        have hL := Lof_le p i
        have hg := (hown.lt g rfl).2
        obtain ⟨j0, hj, hy0, hy1, hy2⟩ := info_parts Try.info9
        have HR : ∀ t, t < Lof p i → w2.cell? ⟨g, t, none⟩ = some (.iface 49 (.agg #[.string (Xof T p t)])) := fun t ht => by rw [hown.cellAt t (by omega)]; exact hR t ht
        clear hJ hbW hb hbel gK gT hpb hsz hown hR
        go_wp2
        go_loopw [8, 63] (fun v i' wr => ∃ (t : Nat) (xs : List Value), t ≤ Lof p i ∧ i' = .int .i64 t ∧ wr.ownsRow w2.heap.size 9 1 v t xs ∧ (∀ j, j < t → xs[j]? = some (.string (Xof T p j))) ∧ Below w2.heap.size w2 wr) (fun _ i' _ => Lof p i - (intOf i').toNat)
        case atStart => exact ⟨0, [], Nat.zero_le _, rfl, World.ownsRow_nil _ _ _ _, fun j hj => by omega, Below.refl _ _⟩
        case round =>
          obtain ⟨t, xs, ht, rfl, hv, hxs, hbl⟩ := hrel
          by_cases hlt : t < Lof p i
          · have hta : ∀ W, (Instr.typeAssert (.iface 49 (.agg #[.string (Xof T p t)])) 44 49 true).run Try.prog W = .ok (.tuple #[.agg #[.string (Xof T p t)], .bool true]) W := fun _ => by kernel_rfl
            have hc := (hbl.cell (p := ⟨g, t, none⟩) hg).trans (HR t hlt)
            have hsw := hbl.size
            have hvl : xs.length = t * 1 := hv.1
            have HX := names_step hvl hxs
            clear HR hJ2 hvl hxs
            go_wp2_with (at_builtin; refine wpList_append_own _ rfl _ _ 23 rfl w2.heap.size 9 j0 _ 1 16 Try.underlying23 hj hy0 hy1 hy2 rfl (by decide) _ _ _ rfl ((hv.alloc _).alloc _) ⟨wr.heap.size + 1, 0, none⟩ 1 1 [.string (Xof T p t)] rfl rfl (cell_one_at _ _ _ _ (by simp)) (by intro u hu; simp at hu; subst hu; rfl) (by unfold maxLen; omega) (by omega) (by simp; omega) ?_; intro v' w3 hv3 hg3 _)
            have hbl3 : Below w2.heap.size w2 w3 := ((hbl.alloc hsw _).alloc (by simp; omega) _).grown hg3 (by simp; omega) (fun k hk => (hv.lt k hk).1)
            clear hv hbl hg3 hc
            go_wp2
            go_roundw
            case rel => exact ⟨t + 1, _, by omega, by go_num, hv3, HX, hbl3⟩
            case measure => simp [intOf]; omega
          · obtain rfl : t = Lof p i := by omega
            obtain ⟨g', cap', rfl⟩ := own_shape hv (by have := Lof_pos p i; omega)
            have hJ3 := hJ2.below hbl
            have q1 := hJ3.p1
            have qv := hJ3.pv
            have hvc : Lof p i ≤ cap' := by
              rcases hv.2 with ⟨h, _⟩ | ⟨g2, cap2, cur, h, _, _, h5, _⟩
              · cases h
              · cases h; exact h5
            have hst := row_strs hv hvc hxs
            clear hJ2 hJ3 HR hv hxs
            go_wp2
            go_quiet (fail)
            go_wp2
            go_ret3
            exact ⟨i, hf, below_drewN (hB.trans (hbl.mono hB.size)) _, .inr ⟨h1, h2, g', cap', rfl, Strs.drawn hst _⟩⟩
end Go.Proofs.Qxb6603633a
