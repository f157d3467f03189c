/- FnNumberTextReadsAWrittenNumber (4): the bounds (10), the clones once more, and the last step. -/
import Derived.Test.Qxb6604447aWalkD
namespace Go.Proofs.Qxb6604447a
open Go.RowKit
set_option linter.unusedVariables false

def BPost (w : World) (t : Nat) (e : Ending) (w' : World) : Prop := ∃ r, e = .returned (.bool r) ∧ w' = w ∧ (r = true → t ≤ 1048576)

set_option maxHeartbeats 1600000 in
theorem bytes10 (a0 : Option Addr) (n0 c0 : Nat) (b1 : Bool) (a2 : Option Addr) (n2 c2 : Nat) (b3 : Bool) (a4 : Option Addr) (n4 c4 : Nat) (em es : Int) (a7 : Option Addr) (n7 c7 : Nat) (a8 : Option Addr) (n8 c8 : Nat) (w : World)
    (m0 : n0 ≤ maxLen) (m2 : n2 ≤ maxLen) (m4 : n4 ≤ maxLen) (m7 : n7 ≤ maxLen) (m8 : n8 ≤ maxLen) :
    Calls Try.prog 10 #[.slice a0 n0 c0, .bool b1, .slice a2 n2 c2, .bool b3, .slice a4 n4 c4, .int .u8 em, .int .u8 es, .slice a7 n7 c7, .slice a8 n8 c8] w fun e w' => BPost w (n0 + n2 + n4 + n7 + n8) e w' := by
  unfold maxLen at m0 m2 m4 m7 m8
  go_enter Try.func10, Try.ntmps10
  go_wp2
  all_goals go_ret
  all_goals first | exact ⟨false, rfl, rfl, fun h => by cases h⟩ | exact ⟨true, rfl, rfl, fun _ => by omega⟩

theorem clone_src (a : Option Addr) (n c : Nat) (K : Nat → Int) (w : World) (hn : n ≤ 1048576) (hz : a = none → n = 0) (hx : Byts w a n c K) :
    Calls Try.prog 6 #[.slice a n c] w fun e w' => ∃ a' c', e = .returned (.slice a' n c') ∧ Byts w' a' n c' K ∧ (a' = none → n = 0 ∧ c' = 0) ∧ Below w.heap.size w w' := by
  match a, hz, hx with
  | none, hz, hx =>
    obtain rfl := hz rfl
    refine (clone_nil 0 c w).mono ?_
    rintro e w' ⟨rfl, rfl⟩
    exact ⟨none, 0, rfl, ⟨Nat.le_refl _, .inl rfl⟩, fun _ => ⟨rfl, rfl⟩, Below.refl _ _⟩
  | some x, _, hx =>
    refine (clone_row x n c K w hn hx).mono ?_
    rintro e w' ⟨rfl, hs, hb⟩
    exact ⟨_, _, rfl, hs, (fun h => by cases h), hb⟩

theorem src_of {w : World} {a : Option Addr} {n c : Nat} {S : Nat → Int} (h : Byts w a n c S) (nl : a = none → n = 0 ∧ c = 0) (r : ∀ k, 0 ≤ S k ∧ S k ≤ 255) : Src w w.heap.size a n c S := ⟨nl, h.2, r⟩

theorem D.cast {w : World} {N : Nat} {ao : Option Addr} {n cap : Nat} {l l' : List Int} (h : D w N ao n cap l) (e : l = l') : D w N ao n cap l' := e ▸ h
theorem D.bound {w w' : World} {N : Nat} {ao ao' : Option Addr} {n n' cap cap' : Nat} {l x : List Int} (h : D w N ao n cap l) (h' : D w' N ao' n' cap' (l ++ x)) {B k : Nat} (hB : n ≤ B) (hx : x.length ≤ k) : n' ≤ B + k := by
  have h1 := h.len
  have h2 := h'.len
  rw [List.length_append] at h2
  omega
theorem dgs_len (l : List Int) : (dgs l).length ≤ l.length + 1 := by
  cases l <;> simp [dgs]
theorem whl_len (l : List Int) : (whl l).length ≤ l.length + 1 := by
  match l with
  | [] => simp [whl]
  | [d] => simp [whl]
  | d :: e :: t => simp [whl]
theorem D.byts {w : World} {N : Nat} {ao : Option Addr} {n cap : Nat} {l : List Int} (h : D w N ao n cap l) : Byts w ao n cap (fun i => l.getD i 0) := by
  rcases h.own.2 with ⟨e, h0⟩ | ⟨g, cap', cur, e, _, _, hc, _⟩
  · simp at e
    exact ⟨by omega, .inl h0⟩
  · simp at e
    obtain ⟨rfl, rfl⟩ := e
    refine ⟨hc, .inr ⟨g, 0, rfl, (h.own.lt g rfl).2, fun k hk => ?_⟩⟩
    have hlen := h.len
    rw [Nat.zero_add, h.own.cellAt k (by omega), List.getElem?_map]
    have hkl : k < l.length := by omega
    simp [List.getD, List.getElem?_eq_getElem hkl]

theorem tl_drop (l : List Int) (p : Nat) (hp : p ≤ l.length) : tl (fun i => l.getD i 0) l.length p = l.drop p := by
  apply List.ext_getElem?
  intro i
  unfold tl
  rw [List.getElem?_map, List.getElem?_drop]
  by_cases h : i < l.length - p
  · rw [List.getElem?_range' h]
    have hl : p + i < l.length := by omega
    simp [List.getD, List.getElem?_eq_getElem hl]
  · rw [List.getElem?_eq_none (by simpa using h), List.getElem?_eq_none (by omega)]
    rfl

/-- The text as it lies behind all the appends. -/
def num (b1 : Bool) (W : List Int) (b3 : Bool) (F : List Int) (em es : Int) (X : List Int) : List Int := negT b1 ++ (whl W ++ (fracT b3 F ++ expT em es X))

theorem final {w : World} {N : Nat} {ao : Option Addr} {n cap n1 n2 q : Nat} {P W F X suf : List Int} {b1 b3 : Bool} {em es : Int} {ok : Bool} (hD : D w N ao n cap (P ++ num b1 W b3 F em es X ++ suf)) (h1 : n1 = P.length) (h2 : n2 = (P ++ num b1 W b3 F em es X).length)
    (hs : stops suf = true) (hT : numP (tl (fun i => (P ++ num b1 W b3 F em es X ++ suf).getD i 0) n n1) = (ok, tl (fun i => (P ++ num b1 W b3 F em es X ++ suf).getD i 0) n q)) (hq : q ≤ n) : ok = true ∧ q = n2 := by
  have hw := written b1 W b3 F em es X suf hs
  have hl := hD.len
  rw [hl] at hT hq
  rw [tl_drop _ _ (by rw [h1]; simp), h1] at hT
  have e : (P ++ num b1 W b3 F em es X ++ suf).drop P.length = negT b1 ++ (whl W ++ (fracT b3 F ++ (expT em es X ++ suf))) := by
    rw [List.append_assoc, List.drop_left]; simp [num]
  rw [e, hw] at hT
  simp only [Prod.mk.injEq] at hT
  refine ⟨hT.1.symm, ?_⟩
  have hlen := congrArg List.length hT.2
  rw [tl_length] at hlen
  rw [List.length_append] at hlen hq
  omega
theorem final_le {w : World} {N : Nat} {ao : Option Addr} {n cap n1 : Nat} {P M suf : List Int} (hD : D w N ao n cap (P ++ M ++ suf)) (h1 : n1 = P.length) : n1 ≤ n := by
  rw [h1, hD.len]; simp
theorem stops_cons {S : Nat → Int} {m : Nat} (hm : m ≠ 0) (h : isDig (S 0) = false ∧ S 0 ≠ 46 ∧ S 0 ≠ 101 ∧ S 0 ≠ 69) : stops (pre S m) = true := by
  obtain ⟨k, rfl⟩ : ∃ k, m = k + 1 := ⟨m - 1, by omega⟩
  have e : pre S (k + 1) = S 0 :: pre (fun i => S (i + 1)) k := by
    simp [pre, List.range_succ_eq_map, Function.comp_def]
  rw [e]
  obtain ⟨h1, h2, h3, h4⟩ := h
  simp [stops, h1, h2, h3, h4]
end Go.Proofs.Qxb6604447a
