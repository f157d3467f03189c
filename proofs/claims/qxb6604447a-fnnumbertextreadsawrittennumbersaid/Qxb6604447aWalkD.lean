/- The text that the second law writes: appends to a row of the call's own; zzContinuesNumber (11), zzAppendDigits (13), zzAppendWhole (12). -/
import Derived.Test.Qxb6604447aWalkC
import Derived.Laws.AppendOwnNone
namespace Go.Proofs.Qxb6604447a
open Go.RowKit
set_option linter.unusedVariables false

/-- A slice of the call's own, above N, that holds the bytes l. -/
structure D (w : World) (N : Nat) (ao : Option Addr) (n cap : Nat) (l : List Int) : Prop where
  len : n = l.length
  own : w.ownsRow N 5 1 (.slice ao n cap) n (l.map (Value.int .u8))
  sz : N ≤ w.heap.size

theorem grownBy_of {w w' : World} (h : Below w.heap.size w w') (r : Option Nat) : w.grownBy w' r := ⟨h.os, h.tape, h.output, h.size, fun k hk _ => h.block k hk⟩
theorem own_below {w w' : World} {B e size n : Nat} {v : Value} {xs : List Value} (h : w.ownsRow B e size v n xs) (hb : Below w.heap.size w w') : w'.ownsRow B e size v n xs :=
  h.kept (grownBy_of hb none) (by cases hv : v.ownBlock <;> simp)
theorem own_form {w : World} {B e size n : Nat} {v : Value} {xs : List Value} (h : w.ownsRow B e size v n xs) : ∃ ao cap, v = .slice ao n cap := by
  rcases h.2 with ⟨rfl, rfl⟩ | ⟨g, cap, cur, rfl, _⟩
  · exact ⟨none, 0, rfl⟩
  · exact ⟨_, cap, rfl⟩

theorem D.nil (w : World) (N : Nat) (h : N ≤ w.heap.size) : D w N none 0 0 [] := ⟨rfl, World.ownsRow_nil _ _ _ _, h⟩
theorem D.below {w w' : World} {N : Nat} {ao : Option Addr} {n cap : Nat} {l : List Int} (h : D w N ao n cap l) (hb : Below w.heap.size w w') : D w' N ao n cap l :=
  ⟨h.len, own_below h.own hb, Nat.le_trans h.sz hb.size⟩

/-- Bytes to be copied from, below N. -/
structure Src (w : World) (N : Nat) (a : Option Addr) (m c : Nat) (S : Nat → Int) : Prop where
  nl : a = none → m = 0 ∧ c = 0
  d : m = 0 ∨ ∃ b o, a = some ⟨b, o, none⟩ ∧ b < N ∧ ∀ k, k < m → w.cell? ⟨b, o + k, none⟩ = some (.int .u8 (S k))
  r : ∀ k, 0 ≤ S k ∧ S k ≤ 255
theorem Src.below {w w' : World} {N : Nat} {a : Option Addr} {m c : Nat} {S : Nat → Int} (h : Src w N a m c S) (hb : Below N w w') : Src w' N a m c S := by
  refine ⟨h.nl, ?_, h.r⟩
  rcases h.d with h | ⟨b, o, e, hlt, hc⟩
  · exact .inl h
  · exact .inr ⟨b, o, e, hlt, fun k hk => (hb.cell (p := ⟨b, o + k, none⟩) hlt).trans (hc k hk)⟩
theorem Src.at {w : World} {N : Nat} {a : Option Addr} {m c : Nat} {S : Nat → Int} (h : Src w N a m c S) (k : Nat) (hk : k < m) : ∃ b o, a = some ⟨b, o, none⟩ ∧ b < N ∧ w.cell? ⟨b, o + k, none⟩ = some (.int .u8 (S k)) := by
  rcases h.d with h | ⟨b, o, h, hb, hc⟩
  · omega
  · exact ⟨b, o, h, hb, hc k hk⟩

def pre (S : Nat → Int) (k : Nat) : List Int := (List.range k).map S
theorem pre_succ (S : Nat → Int) (k : Nat) : pre S (k + 1) = pre S k ++ [S k] := by simp [pre, List.range_succ]
theorem pre_length (S : Nat → Int) (k : Nat) : (pre S k).length = k := by simp [pre]
theorem pre_get (S : Nat → Int) (m j : Nat) (u : Int) (h : (pre S m)[j]? = some u) : j < m ∧ u = S j := by
  have hj : j < m := by have := (List.getElem?_eq_some_iff.1 h).1; simpa [pre] using this
  refine ⟨hj, ?_⟩
  rw [pre, List.getElem?_map, List.getElem?_range hj] at h
  simpa using h.symm

theorem map_one : ∀ u ∈ [Value.int .u8 0], u.oneCell' = true := by decide
theorem one_cells (l : List Int) : ∀ u ∈ l.map (Value.int .u8), u.oneCell' = true := by
  intro u hu
  simp only [List.mem_map] at hu
  obtain ⟨x, _, rfl⟩ := hu
  rfl

theorem add_at (b off j : Nat) : (⟨b, off, none⟩ : Addr).add j = ⟨b, off + j, none⟩ := by
  cases j with
  | zero => rfl
  | succ j => simp [Addr.add]

/-- 'append(data, xs...)'. -/
theorem wpList_app {w : World} {ops : Array Oper} {rest : List Oper} {o : Oper} {act : Act} {Q : Exit → Act → World → Prop} (hgd : o.guard = none) (s x : Operand)
    (ho : o.op = .call { callee := .builtin .append, args := #[s, x], argTypes := #[22, 22] })
    (N : Nat) (ao : Option Addr) (n cap : Nat) (l : List Int) (hs : act.eval s = .slice ao n cap) (hD : D w N ao n cap l)
    (a : Option Addr) (m c : Nat) (S : Nat → Int) (hx : act.eval x = .slice a m c) (hS : Src w N a m c S) (hlen : n + m ≤ 16777216)
    (h : ∀ ao' n' cap' w', D w' N ao' n' cap' (l ++ pre S m) → Below N w w' → wpList Try.prog ops Q rest (act.put o.dst (.slice ao' n' cap')) w') : wpList Try.prog ops Q (o :: rest) act w := by
  obtain ⟨i0, hi, hz0, hz1, hz2⟩ := info_parts Try.info5
  cases a with
  | none =>
    obtain ⟨rfl, rfl⟩ := hS.nl rfl
    refine wpList_append_own_none hgd s x 22 ho N 5 i0 1 Try.underlying22 hi _ n _ hs hD.own hx ?_
    have := h ao n cap w (by simpa [pre] using hD) (Below.refl _ _)
    exact this
  | some ad =>
    refine wpList_append_own w hgd s x 22 ho N 5 i0 _ 1 1 Try.underlying22 hi hz0 hz1 hz2 rfl (by decide) _ n _ hs hD.own ad m c ((pre S m).map (Value.int .u8)) hx (by simp [pre_length]) ?_ (one_cells _) (by unfold maxLen; omega) (by omega) hD.sz ?_
    · intro j u hj
      rw [List.getElem?_map] at hj
      cases hu : (pre S m)[j]? with
      | none => rw [hu] at hj; simp at hj
      | some z =>
        rw [hu] at hj
        simp at hj
        obtain ⟨hjm, rfl⟩ := pre_get S m j z hu
        obtain ⟨b, off, e, _, hc⟩ := hS.at j hjm
        obtain rfl : ad = ⟨b, off, none⟩ := by simpa using e
        rw [← hj, add_at]
        exact hc
    · intro v' w' hown hg _
      obtain ⟨ao', cap', rfl⟩ := own_form hown
      refine h ao' (n + m) cap' w' ⟨by rw [hD.len]; simp [pre_length], by simpa using hown, Nat.le_trans hD.sz hg.size⟩ ?_
      exact (Below.refl N w).grown hg hD.sz (fun k hk => (hD.own.lt k hk).1)

/-- 'append(data, c)': the new byte's own block lies last. -/
theorem wpList_app1 {w : World} {ops : Array Oper} {rest : List Oper} {o : Oper} {act : Act} {Q : Exit → Act → World → Prop} (hgd : o.guard = none) (s x : Operand)
    (ho : o.op = .call { callee := .builtin .append, args := #[s, x], argTypes := #[22, 22] })
    (N : Nat) (ao : Option Addr) (n cap : Nat) (l : List Int) (hs : act.eval s = .slice ao n cap) (hD : D w N ao n cap l)
    (u : Int) (hx : act.eval x = .slice (some ⟨w.heap.size, 0, none⟩) 1 1) (hlen : n + 1 ≤ 16777216)
    (h : ∀ ao' n' cap' w', D w' N ao' n' cap' (l ++ [u]) → Below N w w' → wpList Try.prog ops Q rest (act.put o.dst (.slice ao' n' cap')) w') : wpList Try.prog ops Q (o :: rest) act (w.alloc (.cells #[.int .u8 u] 5)) := by
  obtain ⟨i0, hi, hz0, hz1, hz2⟩ := info_parts Try.info5
  have hb : Below N w (w.alloc (.cells #[.int .u8 u] 5)) := (Below.refl N w).alloc hD.sz _
  have hsz : N ≤ (w.alloc (.cells #[.int .u8 u] 5)).heap.size := Nat.le_trans hD.sz hb.size
  refine wpList_append_own _ hgd s x 22 ho N 5 i0 _ 1 1 Try.underlying22 hi hz0 hz1 hz2 rfl (by decide) _ n _ hs (hD.own.alloc _) ⟨w.heap.size, 0, none⟩ 1 1 [.int .u8 u] hx rfl ?_ (by intro v hv; simp at hv; subst hv; rfl) (by unfold maxLen; omega) (by omega) hsz ?_
  · intro j v hj
    match j, hj with
    | 0, hj =>
      simp at hj
      subst hj
      show (w.alloc _).cell? ⟨w.heap.size, 0 + 0, none⟩ = _
      rw [World.cell?_alloc_at _ _ _ _ rfl]; rfl
    | j + 1, hj => simp at hj
  · intro v' w' hown hg _
    obtain ⟨ao', cap', rfl⟩ := own_form hown
    refine h ao' (n + 1) cap' w' ⟨by rw [hD.len]; simp, by simpa using hown, Nat.le_trans hsz hg.size⟩ ?_
    exact hb.grown hg hsz (fun k hk => (hD.own.lt k hk).1)

def ContPost (w : World) (c : Int) (e : Ending) (w' : World) : Prop := ∃ r, e = .returned (.bool r) ∧ w' = w ∧ (r = false → isDig c = false ∧ c ≠ 46 ∧ c ≠ 101 ∧ c ≠ 69)

set_option maxHeartbeats 800000 in
theorem continues_any (c : Int) (w : World) : Calls Try.prog 11 #[.int .u8 c] w fun e w' => ContPost w c e w' := by
  by_cases hd : isDig c = true
  · have hd' := hd
    simp only [isDig, Bool.and_eq_true, decide_eq_true_eq] at hd'
    obtain ⟨h1, h2⟩ := hd'
    clear hd
    go_enter Try.func11, Try.ntmps11
    go_wp2
    go_ret
    exact ⟨true, rfl, rfl, fun h => by cases h⟩
  · by_cases h46 : c = 46
    · subst h46
      clear hd
      go_enter Try.func11, Try.ntmps11
      go_wp2
      go_ret
      exact ⟨true, rfl, rfl, fun h => by cases h⟩
    · by_cases h101 : c = 101
      · subst h101
        clear hd h46
        go_enter Try.func11, Try.ntmps11
        go_wp2
        go_ret
        exact ⟨true, rfl, rfl, fun h => by cases h⟩
      · by_cases h69 : c = 69
        · subst h69
          clear hd h46 h101
          go_enter Try.func11, Try.ntmps11
          go_wp2
          go_ret
          exact ⟨true, rfl, rfl, fun h => by cases h⟩
        · have fact : isDig c = false ∧ c ≠ 46 ∧ c ≠ 101 ∧ c ≠ 69 := ⟨by simpa using hd, h46, h101, h69⟩
          have F : Hid _ := fact
          have e46 : (c == 46) = false := by simpa using h46
          have e101 : (c == 101) = false := by simpa using h101
          have e69 : (c == 69) = false := by simpa using h69
          clear fact hd h46 h101 h69
          go_enter Try.func11, Try.ntmps11
          go_wp2
          all_goals go_ret
          all_goals exact ⟨_, rfl, rfl, fun _ => F.out⟩

theorem dgs_pre (S : Nat → Int) (m : Nat) (hm : m ≠ 0) : dgs (pre S m) = (pre S m).map fun d => 48 + d % 10 := by
  obtain ⟨k, rfl⟩ : ∃ k, m = k + 1 := ⟨m - 1, by omega⟩
  have e : pre S (k + 1) = S 0 :: pre (fun i => S (i + 1)) k := by
    simp [pre, List.range_succ_eq_map, Function.comp_def]
  rw [e]; rfl

set_option maxHeartbeats 1600000 in
theorem digits_app (ao : Option Addr) (n cap : Nat) (l : List Int) (a : Option Addr) (m c : Nat) (S : Nat → Int) (N : Nat) (w : World) (hD : D w N ao n cap l) (hS : Src w N a m c S) (hlen : n + m + 1 ≤ 16777216) :
    Calls Try.prog 13 #[.slice ao n cap, .slice a m c] w fun e w' => ∃ ao' n' cap', e = .returned (.slice ao' n' cap') ∧ D w' N ao' n' cap' (l ++ dgs (pre S m)) ∧ Below N w w' := by
  by_cases hm : m = 0
  · subst hm
    go_enter Try.func13, Try.ntmps13
    go_wp2_with (at_builtin; refine wpList_app1 rfl _ _ rfl N ao n cap l rfl hD 48 rfl (by omega) ?_; intro ao' n' cap' w' hD' hB')
    go_ret
    exact ⟨_, _, _, rfl, hD', hB'⟩
  · rw [dgs_pre S m hm]
    obtain ⟨b, o, rfl, hb, _⟩ := hS.at 0 (by omega)
    have hm0 : ((m : Int) == 0) = false := by simpa using hm
    go_enter Try.func13, Try.ntmps13
    go_wp2
    go_loopw [0, 5] (fun v i wr => ∃ (k : Nat) (ao : Option Addr) (n' cap : Nat), k ≤ m ∧ i = .int .i64 k ∧ v = .slice ao n' cap ∧ n' = n + k ∧ D wr N ao n' cap (l ++ (pre S k).map fun d => 48 + d % 10) ∧ Below N w wr) (fun _ i _ => m - (intOf i).toNat)
    case atStart => exact ⟨0, ao, n, cap, Nat.zero_le _, rfl, rfl, rfl, by simpa [pre] using hD, Below.refl _ _⟩
    case round =>
      clear hD
      obtain ⟨k, ao1, n1, cap1, hk, rfl, rfl, hn1, hD, hB⟩ := hrel
      replace hS := hS.below hB
      by_cases hlt : k < m
      · obtain ⟨b', o', e, hb', c1⟩ := hS.at k hlt
        obtain ⟨rfl, rfl⟩ : b = b' ∧ o = o' := by simpa using e
        obtain ⟨r0, r1⟩ := hS.r k
        clear e
        go_wp2_with (at_builtin; refine wpList_app1 rfl _ _ rfl N ao1 n1 cap1 _ rfl hD (48 + S k % 10) rfl (by omega) ?_; intro ao' n' cap' w' hD' hB')
        have hl1 := hD.len
        have hl2 := hD'.len
        rw [List.append_assoc] at hD'
        have he : (pre S k).map (fun d => 48 + d % 10) ++ [48 + S k % 10] = (pre S (k + 1)).map fun d => 48 + d % 10 := by simp [pre_succ]
        rw [he] at hD'
        have hn2 : n' = n + (k + 1) := by simp only [List.length_append, List.length_map, pre_length, List.length_cons, List.length_nil] at hl1 hl2; omega
        have HN : Hid _ := hn2
        clear hl1 hl2 he hn2
        replace hB := hB.trans hB'
        clear hB' hD
        go_wp2
        go_roundw
        case rel => exact ⟨k + 1, ao', n', cap', by omega, by go_num, rfl, HN.out, hD', hB⟩
        case measure => simp [intOf]; omega
      · have hkm : k = m := by omega
        subst hkm
        go_wp2
        go_ret
        exact ⟨_, _, _, rfl, hD, hB⟩

theorem whl_pre (S : Nat → Int) (m : Nat) (hm : 2 ≤ m) : whl (pre S m) = (49 + S 0 % 9) :: ((pre (fun i => S (i + 1)) (m - 1)).map fun d => 48 + d % 10) := by
  obtain ⟨k, rfl⟩ : ∃ k, m = k + 2 := ⟨m - 2, by omega⟩
  have e : pre S (k + 2) = S 0 :: S 1 :: pre (fun i => S (i + 2)) k := by
    simp [pre, List.range_succ_eq_map, Function.comp_def]
  have e2 : pre (fun i => S (i + 1)) (k + 2 - 1) = S 1 :: pre (fun i => S (i + 2)) k := by
    simp [pre, List.range_succ_eq_map, Function.comp_def]
  rw [e, e2]; rfl

set_option maxHeartbeats 1600000 in
theorem whole_app (ao : Option Addr) (n cap : Nat) (l : List Int) (a : Option Addr) (m c : Nat) (S : Nat → Int) (N : Nat) (w : World) (hD : D w N ao n cap l) (hS : Src w N a m c S) (hlen : n + m + 1 ≤ 16777216) :
    Calls Try.prog 12 #[.slice ao n cap, .slice a m c] w fun e w' => ∃ ao' n' cap', e = .returned (.slice ao' n' cap') ∧ D w' N ao' n' cap' (l ++ whl (pre S m)) ∧ Below N w w' := by
  by_cases hm : m = 0
  · subst hm
    go_enter Try.func12, Try.ntmps12
    go_wp2_with (at_builtin; refine wpList_app1 rfl _ _ rfl N ao n cap l rfl hD 48 rfl (by omega) ?_; intro ao' n' cap' w' hD' hB')
    go_ret
    exact ⟨_, _, _, rfl, hD', hB'⟩
  · by_cases hm1 : m = 1
    · subst hm1
      obtain ⟨b, o, rfl, hb, c1⟩ := hS.at 0 (by omega)
      obtain ⟨r0, r1⟩ := hS.r 0
      rw [Nat.add_zero] at c1
      go_enter Try.func12, Try.ntmps12
      go_wp2_with (at_builtin; refine wpList_app1 rfl _ _ rfl N ao n cap l rfl hD (48 + S 0 % 10) rfl (by omega) ?_; intro ao' n' cap' w' hD' hB')
      go_ret
      exact ⟨_, _, _, rfl, hD', hB'⟩
    · obtain ⟨b, o, rfl, hb, c1⟩ := hS.at 0 (by omega)
      obtain ⟨r0, r1⟩ := hS.r 0
      rw [Nat.add_zero] at c1
      rw [whl_pre S m (by omega)]
      go_enter Try.func12, Try.ntmps12
      go_wp2_with (at_builtin; refine wpList_app1 rfl _ _ rfl N ao n cap l rfl hD (49 + S 0 % 9) rfl (by omega) ?_; intro ao' n' cap' w' hD' hB')
      have hn' : n' = n + 1 := by have h1 := hD.len; have h2 := hD'.len; simp only [List.length_append, List.length_cons, List.length_nil] at h2; omega
      go_loopw [0, 5] (fun v i wr => ∃ (k : Nat) (ao : Option Addr) (n' cap : Nat), 1 ≤ k ∧ k ≤ m ∧ i = .int .i64 k ∧ v = .slice ao n' cap ∧ n' = n + k ∧ D wr N ao n' cap (l ++ (49 + S 0 % 9) :: ((pre (fun i => S (i + 1)) (k - 1)).map fun d => 48 + d % 10)) ∧ Below N w wr) (fun _ i _ => m - (intOf i).toNat)
      case atStart => exact ⟨1, ao', n', cap', Nat.le_refl _, by omega, rfl, rfl, hn', by simpa [pre] using hD', hB'⟩
      case round =>
        clear hD hD' hB' c1 hn'
        obtain ⟨k, ao1, n1, cap1, hk1, hk, rfl, rfl, hn1, hD, hB⟩ := hrel
        replace hS := hS.below hB
        by_cases hlt : k < m
        · obtain ⟨b', o', e, hb', c1⟩ := hS.at k hlt
          obtain ⟨rfl, rfl⟩ : b = b' ∧ o = o' := by simpa using e
          obtain ⟨r0, r1⟩ := hS.r k
          clear e
          go_wp2_with (at_builtin; refine wpList_app1 rfl _ _ rfl N ao1 n1 cap1 _ rfl hD (48 + S k % 10) rfl (by omega) ?_; intro ao' n' cap' w' hD' hB')
          have hl1 := hD.len
          have hl2 := hD'.len
          rw [List.append_assoc] at hD'
          have he : ((49 + S 0 % 9) :: ((pre (fun i => S (i + 1)) (k - 1)).map fun d => 48 + d % 10)) ++ [48 + S k % 10] = (49 + S 0 % 9) :: ((pre (fun i => S (i + 1)) (k + 1 - 1)).map fun d => 48 + d % 10) := by
            obtain ⟨j, rfl⟩ : ∃ j, k = j + 1 := ⟨k - 1, by omega⟩
            simp [pre_succ]
          rw [he] at hD'
          have hn2 : n' = n + (k + 1) := by simp only [List.length_append, List.length_map, pre_length, List.length_cons, List.length_nil] at hl1 hl2; omega
          have HN : Hid _ := hn2
          clear hl1 hl2 he hn2
          replace hB := hB.trans hB'
          clear hB' hD
          go_wp2
          go_roundw
          case rel => exact ⟨k + 1, ao', n', cap', by omega, by omega, by go_num, rfl, HN.out, hD', hB⟩
          case measure => simp [intOf]; omega
        · have hkm : k = m := by omega
          subst hkm
          go_wp2
          go_ret
          exact ⟨_, _, _, rfl, hD, hB⟩
end Go.Proofs.Qxb6604447a
