/- joined (23), both kinds of operand in one contract; a 'make' whose world is told whole. -/
import Derived.Test.Qxb6603633aJoinC
import Derived.Test.Qxb6603633aWalkE
namespace Go.Proofs.Qxb6603633a
open Go.RowKit
set_option linter.unusedVariables false

/-- The text of the t-th rule that is read, and how many there are behind i + 1 operands. -/
def Xof (T : Nat → ByteArray) (p : Bool) (t : Nat) : ByteArray := if p then T (2 * (t / 2)) else T (2 * t)
def Lof (p : Bool) (i : Nat) : Nat := if p then 2 * i + 2 else i + 1

theorem rules1_len (T : Nat → ByteArray) : ∀ i, (rules1 T i).length = i
  | 0 => rfl
  | i + 1 => by simp [rules1, rules1_len T i]
theorem rules1_get (T : Nat → ByteArray) : ∀ i t, t < i → (rules1 T i)[t]? = some (spV T t)
  | 0, t, h => by omega
  | i + 1, t, h => by
    rw [rules1]
    by_cases e : t = i
    · subst e; rw [List.getElem?_append_right (by rw [rules1_len]; omega), rules1_len]; simp
    · rw [List.getElem?_append_left (by rw [rules1_len]; omega)]; exact rules1_get T i t (by omega)
theorem rules2_len (T : Nat → ByteArray) : ∀ i, (rules2 T i).length = 2 * i
  | 0 => rfl
  | i + 1 => by simp [rules2, rules2_len T i]; omega
theorem rules2_get (T : Nat → ByteArray) : ∀ i t, t < 2 * i → (rules2 T i)[t]? = some (spV T (t / 2))
  | 0, t, h => by omega
  | i + 1, t, h => by
    rw [rules2]
    by_cases e : t < 2 * i
    · rw [List.getElem?_append_left (by rw [rules2_len]; omega)]; exact rules2_get T i t e
    · rw [List.getElem?_append_right (by rw [rules2_len]; omega), rules2_len]
      have h2 : t / 2 = i := by omega
      rw [h2]
      rcases (show t - 2 * i = 0 ∨ t - 2 * i = 1 by omega) with e | e <;> rw [e] <;> rfl

/-- What 'joined' leaves. -/
def JoinedPost (w : World) (N n : Nat) (K : Nat → Int) (T : Nat → ByteArray) (p : Bool) (op : Int) (e : Ending) (w' : World) : Prop :=
  ∃ i, Follows n K op i ∧ Below N w w' ∧
    ((2 * i = n ∧ (∃ x, e = .returned (.tuple #[.slice none 0 0, .iface 65 x])) ∧ JS w' N n K T p n) ∨
     (2 * i < n ∧ ¬ (2 * i + 1 < n ∧ K (2 * i + 1) = op) ∧ ∃ g cap R, e = .returned (.tuple #[.slice (some ⟨g, 0, none⟩) (Lof p i) cap, .nilIface]) ∧ JS w' N n K T p (2 * i + 1) ∧
       w'.ownsRow (N + 4) 44 1 (.slice (some ⟨g, 0, none⟩) (Lof p i) cap) (Lof p i) R ∧ ∀ t, t < Lof p i → R[t]? = some (.iface 49 (.agg #[.string (Xof T p t)]))))

theorem own_shape {w : World} {B e size n : Nat} {v : Value} {xs : List Value} (h : w.ownsRow B e size v n xs) (hn : n ≠ 0) : ∃ g cap, v = .slice (some ⟨g, 0, none⟩) n cap := by
  rcases h.2 with ⟨rfl, h0⟩ | ⟨g, cap, cur, rfl, _⟩
  · exact absurd h0 hn
  · exact ⟨g, cap, rfl⟩

theorem joined_any {N n : Nat} {K : Nat → Int} {T : Nat → ByteArray} (p : Bool) (op : Int) (w : World) (h : JS w N n K T p 0) (hn : n ≤ 65536) :
    Calls Try.prog 23 #[.pointer (some ⟨N + 2, 0, none⟩), .int .i64 op, .func (.func 20) #[] #[.pointer (some ⟨N + 3, 0, none⟩), .pointer (some ⟨N, 0, none⟩)], .func (.func 22) #[] #[]] w fun e w' => JoinedPost w N n K T p op e w' := by
  cases p with
  | false =>
    refine (joined_single op w h hn).mono ?_
    rintro e w' ⟨i, hf, hb, h1 | ⟨h1, h2, v, rfl, h3, h4⟩⟩
    · exact ⟨i, hf, hb, .inl h1⟩
    · obtain ⟨g, cap, rfl⟩ := own_shape h4 (by omega)
      exact ⟨i, hf, hb, .inr ⟨h1, h2, g, cap, _, rfl, h3, h4, fun t ht => rules1_get T (i + 1) t ht⟩⟩
  | true =>
    refine (joined_pair op w h hn).mono ?_
    rintro e w' ⟨i, hf, hb, h1 | ⟨h1, h2, v, rfl, h3, h4⟩⟩
    · exact ⟨i, hf, hb, .inl h1⟩
    · obtain ⟨g, cap, rfl⟩ := own_shape h4 (by omega)
      exact ⟨i, hf, hb, .inr ⟨h1, h2, g, cap, _, rfl, h3, h4, fun t ht => rules2_get T (i + 1) t (by simp [Lof] at ht; omega)⟩⟩

/-- 'make([]T, n)', the world told whole. -/
theorem wpList_make_whole {P : Program} (w : World) {ops : Array Oper} {rest : List Oper} {o : Oper} {a : Act} {Q : Exit → Act → World → Prop}
    (hg : o.guard = none) (l c : Operand) (t : TypeId) (hop : o.op = Op.makeSlice t l c)
    (e : TypeId) (i : TypeInfo) (z : Value) (h1 : P.underlying t = some (.slice e)) (h2 : P.info? e = some i) (h3 : i.zero = some z)
    (kl kc : IntKind) (n : Nat) (hl : a.eval l = .int kl (n : Int)) (hc : a.eval c = .int kc (n : Int)) (b2 : i.bytes * n ≤ 281474976710656) (b3 : n ≤ 65536)
    (hK : wpList P ops Q rest (a.put o.dst (.slice (some ⟨w.heap.size, 0, none⟩) n n)) (w.alloc (.cells (madeCells z.cells (n * i.size)) e))) :
    wpList P ops Q (o :: rest) a w := by
  refine wpList_plain hg fun K hK' => ?_
  have hb' : (i.bytes : Int) * (n : Int) ≤ 281474976710656 := by
    have h : ((i.bytes * n : Nat) : Int) ≤ 281474976710656 := by omega
    rwa [Int.natCast_mul] at h
  have hr := run_make (P := P) w t e i z h1 h2 h3 kl kc n n (by omega) (Int.le_refl _) hb' (by omega)
  simp only [Int.toNat_natCast] at hr
  unfold Oper.wp
  simp [execOp, hop, hl, hc, hr, Result.andThen]
  exact hK' _ _ hK
end Go.Proofs.Qxb6603633a
