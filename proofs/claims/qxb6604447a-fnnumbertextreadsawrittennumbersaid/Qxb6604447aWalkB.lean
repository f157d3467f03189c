/- (*reader).numberText (14). -/
import Derived.Test.Qxb6604447aWalkA
namespace Go.Proofs.Qxb6604447a
open Go.RowKit
set_option linter.unusedVariables false

theorem nxt_no {c : Int} {l : List Int} (h : nxt c l = false) : drp c l = l := by
  cases l with
  | nil => rfl
  | cons x t => simp [nxt] at h; simp [drp, h]
theorem digR_no {l : List Int} (h : hasD l = false) : digR l = l := by
  cases l with
  | nil => rfl
  | cons x t => simp [hasD] at h; simp [digR, h]
section
variable {x : Bool × List Int} {l l2 : List Int} {q q2 : Nat}
theorem num_start {l l2 : List Int} (h : l2 = drp 45 l) : numP l = wholeP l2 := by subst h; rfl
theorem whole_zero (h : x = wholeP l) (hx : nxt 48 l = true) (ht : l2 = drp 48 l) : x = fracP l2 := by subst ht; rw [h]; simp [wholeP, hx]
/-- No zero ahead: what is left to be read. -/
def wholeN (l : List Int) : Bool × List Int := if hasD l then fracP (digR l) else (false, l)
theorem whole_no (h : x = wholeP l) (hx : nxt 48 l = false) (ht : l2 = drp 48 l) : x = wholeN l2 := by rw [ht, nxt_no hx, h]; simp [wholeP, hx, wholeN]
theorem whole_bad (h : x = wholeN l) (hy : hasD l = false) (ht : l2 = digR l) : x = (false, l2) := by rw [ht, digR_no hy, h]; simp [wholeN, hy]
theorem whole_good (h : x = wholeN l) (hy : hasD l = true) (ht : l2 = digR l) : x = fracP l2 := by rw [ht, h]; simp [wholeN, hy]
/-- Behind the point. -/
def fracN (l : List Int) : Bool × List Int := if hasD l then expP (digR l) else (false, l)
theorem frac_no (h : x = fracP l) (hx : nxt 46 l = false) (ht : l2 = drp 46 l) : x = expP l2 := by rw [ht, nxt_no hx, h]; simp [fracP, hx]
theorem frac_yes (h : x = fracP l) (hx : nxt 46 l = true) (ht : l2 = drp 46 l) : x = fracN l2 := by rw [ht, h]; simp [fracP, hx, fracN]
theorem frac_bad (h : x = fracN l) (hy : hasD l = false) (ht : l2 = digR l) : x = (false, l2) := by rw [ht, digR_no hy, h]; simp [fracN, hy]
theorem frac_good (h : x = fracN l) (hy : hasD l = true) (ht : l2 = digR l) : x = expP l2 := by rw [ht, h]; simp [fracN, hy]
/-- No small e. -/
def expN (l : List Int) : Bool × List Int := if nxt 69 l then expD (drp 69 l) else (true, l)
theorem exp_e (h : x = expP l) (hx : nxt 101 l = true) (ht : l2 = drp 101 l) : x = expD l2 := by rw [ht, h]; simp [expP, hx]
theorem exp_noe (h : x = expP l) (hx : nxt 101 l = false) (ht : l2 = drp 101 l) : x = expN l2 := by rw [ht, nxt_no hx, h]; simp [expP, hx, expN]
theorem exp_E (h : x = expN l) (hx : nxt 69 l = true) (ht : l2 = drp 69 l) : x = expD l2 := by rw [ht, h]; simp [expN, hx]
theorem exp_noE (h : x = expN l) (hx : nxt 69 l = false) (ht : l2 = drp 69 l) : x = (true, l2) := by rw [ht, nxt_no hx, h]; simp [expN, hx]
def expF (l : List Int) : Bool × List Int := (hasD l, digR l)
theorem exp_plus (h : x = expD l) (hx : nxt 43 l = true) (ht : l2 = drp 43 l) : x = expF l2 := by rw [ht, h]; simp [expD, hx, expF]
def expM (l : List Int) : Bool × List Int := (hasD (drp 45 l), digR (drp 45 l))
theorem exp_noplus (h : x = expD l) (hx : nxt 43 l = false) (ht : l2 = drp 43 l) : x = expM l2 := by rw [ht, nxt_no hx, h]; simp [expD, hx, expM]
theorem exp_minus (h : x = expM l) (ht : l2 = drp 45 l) : x = expF l2 := by rw [ht, h]; rfl
theorem exp_fin (h : x = expF l) (ht : l2 = digR l) (hi : q < q2 ↔ hasD l = true) : x = (decide (q < q2), l2) := by
  rw [ht, h]
  unfold expF
  congr 1
  rw [Bool.eq_iff_iff, decide_eq_true_iff, ← hi]
theorem dig_zero (hi : q < q2 ↔ hasD l = true) (hy : hasD l = false) (hle : q ≤ q2) : ((q2 : Int) - (q : Int) == 0) = true := by
  rw [hy] at hi; simp at hi; simp; omega
theorem dig_some (hi : q < q2 ↔ hasD l = true) (hy : hasD l = true) (hle : q ≤ q2) : ((q2 : Int) - (q : Int) == 0) = false := by
  rw [hy] at hi; simp at hi; simp; omega
end

/-- What 'numberText' leaves. -/
def NumPost (w : World) (r : Nat) (a : Option Addr) (n c : Nat) (S : Nat → Int) (pos : Nat) (e : Ending) (w' : World) : Prop :=
  ∃ ok q, e = .returned (.bool ok) ∧ numP (tl S n pos) = (ok, tl S n q) ∧ RS w' r a n c S q ∧ Below r w w'

set_option maxRecDepth 100000 in
set_option maxHeartbeats 8000000 in
theorem number_any {w : World} {r : Nat} {a : Option Addr} {n c : Nat} {S : Nat → Int} {pos : Nat} (h0 : RS w r a n c S pos) :
    Calls Try.prog 14 #[.pointer (some ⟨r, 0, none⟩)] w fun e w' => NumPost w r a n c S pos e w' := by
  have hB : Below r w w := Below.refl _ _
  go_enter Try.func14, Try.ntmps14
  go_wp2_with fail
  refine (next_any 45 h0).mono ?_
  rintro e w1 ⟨rfl, q1, h1, t1, b1⟩
  replace hB := hB.trans b1
  clear h0 b1
  have hT : Hid _ := num_start t1
  clear t1
  go_wp2_with fail
  refine (next_any 48 h1).mono ?_
  rintro e w2 ⟨rfl, q2, h2, t2, b2⟩
  replace hB := hB.trans b2
  clear h1 b2
  cases hx : nxt 48 (tl S n q1) with
  | true =>
    replace hT : Hid _ := whole_zero hT.out hx t2
    clear hx t2
    go_wp2_with fail
    refine (next_any 46 h2).mono ?_
    rintro e w11 ⟨rfl, q11, h11, t11, b11⟩
    replace hB := hB.trans b11
    clear h2 b11
    cases hx : nxt 46 (tl S n q2) with
    | false =>
      replace hT : Hid _ := frac_no hT.out hx t11
      clear hx t11
      go_wp2_with fail
      refine (next_any 101 h11).mono ?_
      rintro e w12 ⟨rfl, q12, h12, t12, b12⟩
      replace hB := hB.trans b12
      clear h11 b12
      cases hx : nxt 101 (tl S n q11) with
      | true =>
        replace hT : Hid _ := exp_e hT.out hx t12
        clear hx t12
        go_wp2_with fail
        refine (next_any 43 h12).mono ?_
        rintro e w13 ⟨rfl, q13, h13, t13, b13⟩
        replace hB := hB.trans b13
        clear h12 b13
        cases hx : nxt 43 (tl S n q12) with
        | true =>
          replace hT : Hid _ := exp_plus hT.out hx t13
          clear hx t13
          go_wp2_with fail
          refine (digits_any h13).mono ?_
          rintro e w14 ⟨q14, le14, rfl, h14, t14, i14, b14⟩
          replace hB := hB.trans b14
          clear h13 b14
          replace hT : Hid _ := exp_fin hT.out t14 i14
          clear t14 i14
          go_wp2
          go_ret
          exact ⟨_, q14, rfl, hT.out, h14, hB⟩
        | false =>
          replace hT : Hid _ := exp_noplus hT.out hx t13
          clear hx t13
          go_wp2_with fail
          refine (next_any 45 h13).mono ?_
          rintro e w15 ⟨rfl, q15, h15, t15, b15⟩
          replace hB := hB.trans b15
          clear h13 b15
          replace hT : Hid _ := exp_minus hT.out t15
          clear t15
          go_wp2_with fail
          refine (digits_any h15).mono ?_
          rintro e w16 ⟨q16, le16, rfl, h16, t16, i16, b16⟩
          replace hB := hB.trans b16
          clear h15 b16
          replace hT : Hid _ := exp_fin hT.out t16 i16
          clear t16 i16
          go_wp2
          go_ret
          exact ⟨_, q16, rfl, hT.out, h16, hB⟩
      | false =>
        replace hT : Hid _ := exp_noe hT.out hx t12
        clear hx t12
        go_wp2_with fail
        refine (next_any 69 h12).mono ?_
        rintro e w17 ⟨rfl, q17, h17, t17, b17⟩
        replace hB := hB.trans b17
        clear h12 b17
        cases hx : nxt 69 (tl S n q12) with
        | true =>
          replace hT : Hid _ := exp_E hT.out hx t17
          clear hx t17
          go_wp2_with fail
          refine (next_any 43 h17).mono ?_
          rintro e w18 ⟨rfl, q18, h18, t18, b18⟩
          replace hB := hB.trans b18
          clear h17 b18
          cases hx : nxt 43 (tl S n q17) with
          | true =>
            replace hT : Hid _ := exp_plus hT.out hx t18
            clear hx t18
            go_wp2_with fail
            refine (digits_any h18).mono ?_
            rintro e w19 ⟨q19, le19, rfl, h19, t19, i19, b19⟩
            replace hB := hB.trans b19
            clear h18 b19
            replace hT : Hid _ := exp_fin hT.out t19 i19
            clear t19 i19
            go_wp2
            go_ret
            exact ⟨_, q19, rfl, hT.out, h19, hB⟩
          | false =>
            replace hT : Hid _ := exp_noplus hT.out hx t18
            clear hx t18
            go_wp2_with fail
            refine (next_any 45 h18).mono ?_
            rintro e w20 ⟨rfl, q20, h20, t20, b20⟩
            replace hB := hB.trans b20
            clear h18 b20
            replace hT : Hid _ := exp_minus hT.out t20
            clear t20
            go_wp2_with fail
            refine (digits_any h20).mono ?_
            rintro e w21 ⟨q21, le21, rfl, h21, t21, i21, b21⟩
            replace hB := hB.trans b21
            clear h20 b21
            replace hT : Hid _ := exp_fin hT.out t21 i21
            clear t21 i21
            go_wp2
            go_ret
            exact ⟨_, q21, rfl, hT.out, h21, hB⟩
        | false =>
          replace hT : Hid _ := exp_noE hT.out hx t17
          clear hx t17
          go_wp2
          go_ret
          exact ⟨_, q17, rfl, hT.out, h17, hB⟩
    | true =>
      replace hT : Hid _ := frac_yes hT.out hx t11
      clear hx t11
      go_wp2_with fail
      refine (digits_any h11).mono ?_
      rintro e w22 ⟨q22, le22, rfl, h22, t22, i22, b22⟩
      replace hB := hB.trans b22
      clear h11 b22
      cases hy : hasD (tl S n q11) with
      | false =>
        replace hT : Hid _ := frac_bad hT.out hy t22
        have hz := dig_zero i22 hy le22
        clear t22 i22 hy
        go_wp2
        go_ret
        exact ⟨_, q22, rfl, hT.out, h22, hB⟩
      | true =>
        replace hT : Hid _ := frac_good hT.out hy t22
        have hz := dig_some i22 hy le22
        clear t22 i22 hy
        go_wp2_with fail
        refine (next_any 101 h22).mono ?_
        rintro e w23 ⟨rfl, q23, h23, t23, b23⟩
        replace hB := hB.trans b23
        clear h22 b23
        cases hx : nxt 101 (tl S n q22) with
        | true =>
          replace hT : Hid _ := exp_e hT.out hx t23
          clear hx t23
          go_wp2_with fail
          refine (next_any 43 h23).mono ?_
          rintro e w24 ⟨rfl, q24, h24, t24, b24⟩
          replace hB := hB.trans b24
          clear h23 b24
          cases hx : nxt 43 (tl S n q23) with
          | true =>
            replace hT : Hid _ := exp_plus hT.out hx t24
            clear hx t24
            go_wp2_with fail
            refine (digits_any h24).mono ?_
            rintro e w25 ⟨q25, le25, rfl, h25, t25, i25, b25⟩
            replace hB := hB.trans b25
            clear h24 b25
            replace hT : Hid _ := exp_fin hT.out t25 i25
            clear t25 i25
            go_wp2
            go_ret
            exact ⟨_, q25, rfl, hT.out, h25, hB⟩
          | false =>
            replace hT : Hid _ := exp_noplus hT.out hx t24
            clear hx t24
            go_wp2_with fail
            refine (next_any 45 h24).mono ?_
            rintro e w26 ⟨rfl, q26, h26, t26, b26⟩
            replace hB := hB.trans b26
            clear h24 b26
            replace hT : Hid _ := exp_minus hT.out t26
            clear t26
            go_wp2_with fail
            refine (digits_any h26).mono ?_
            rintro e w27 ⟨q27, le27, rfl, h27, t27, i27, b27⟩
            replace hB := hB.trans b27
            clear h26 b27
            replace hT : Hid _ := exp_fin hT.out t27 i27
            clear t27 i27
            go_wp2
            go_ret
            exact ⟨_, q27, rfl, hT.out, h27, hB⟩
        | false =>
          replace hT : Hid _ := exp_noe hT.out hx t23
          clear hx t23
          go_wp2_with fail
          refine (next_any 69 h23).mono ?_
          rintro e w28 ⟨rfl, q28, h28, t28, b28⟩
          replace hB := hB.trans b28
          clear h23 b28
          cases hx : nxt 69 (tl S n q23) with
          | true =>
            replace hT : Hid _ := exp_E hT.out hx t28
            clear hx t28
            go_wp2_with fail
            refine (next_any 43 h28).mono ?_
            rintro e w29 ⟨rfl, q29, h29, t29, b29⟩
            replace hB := hB.trans b29
            clear h28 b29
            cases hx : nxt 43 (tl S n q28) with
            | true =>
              replace hT : Hid _ := exp_plus hT.out hx t29
              clear hx t29
              go_wp2_with fail
              refine (digits_any h29).mono ?_
              rintro e w30 ⟨q30, le30, rfl, h30, t30, i30, b30⟩
              replace hB := hB.trans b30
              clear h29 b30
              replace hT : Hid _ := exp_fin hT.out t30 i30
              clear t30 i30
              go_wp2
              go_ret
              exact ⟨_, q30, rfl, hT.out, h30, hB⟩
            | false =>
              replace hT : Hid _ := exp_noplus hT.out hx t29
              clear hx t29
              go_wp2_with fail
              refine (next_any 45 h29).mono ?_
              rintro e w31 ⟨rfl, q31, h31, t31, b31⟩
              replace hB := hB.trans b31
              clear h29 b31
              replace hT : Hid _ := exp_minus hT.out t31
              clear t31
              go_wp2_with fail
              refine (digits_any h31).mono ?_
              rintro e w32 ⟨q32, le32, rfl, h32, t32, i32, b32⟩
              replace hB := hB.trans b32
              clear h31 b32
              replace hT : Hid _ := exp_fin hT.out t32 i32
              clear t32 i32
              go_wp2
              go_ret
              exact ⟨_, q32, rfl, hT.out, h32, hB⟩
          | false =>
            replace hT : Hid _ := exp_noE hT.out hx t28
            clear hx t28
            go_wp2
            go_ret
            exact ⟨_, q28, rfl, hT.out, h28, hB⟩
  | false =>
    replace hT : Hid _ := whole_no hT.out hx t2
    clear hx t2
    go_wp2_with fail
    refine (digits_any h2).mono ?_
    rintro e w3 ⟨q3, le3, rfl, h3, t3, i3, b3⟩
    replace hB := hB.trans b3
    clear h2 b3
    cases hy : hasD (tl S n q2) with
    | false =>
      replace hT : Hid _ := whole_bad hT.out hy t3
      have hz := dig_zero i3 hy le3
      clear t3 i3 hy
      go_wp2
      go_ret
      exact ⟨_, q3, rfl, hT.out, h3, hB⟩
    | true =>
      replace hT : Hid _ := whole_good hT.out hy t3
      have hz := dig_some i3 hy le3
      clear t3 i3 hy
      go_wp2_with fail
      refine (next_any 46 h3).mono ?_
      rintro e w33 ⟨rfl, q33, h33, t33, b33⟩
      replace hB := hB.trans b33
      clear h3 b33
      cases hx : nxt 46 (tl S n q3) with
      | false =>
        replace hT : Hid _ := frac_no hT.out hx t33
        clear hx t33
        go_wp2_with fail
        refine (next_any 101 h33).mono ?_
        rintro e w34 ⟨rfl, q34, h34, t34, b34⟩
        replace hB := hB.trans b34
        clear h33 b34
        cases hx : nxt 101 (tl S n q33) with
        | true =>
          replace hT : Hid _ := exp_e hT.out hx t34
          clear hx t34
          go_wp2_with fail
          refine (next_any 43 h34).mono ?_
          rintro e w35 ⟨rfl, q35, h35, t35, b35⟩
          replace hB := hB.trans b35
          clear h34 b35
          cases hx : nxt 43 (tl S n q34) with
          | true =>
            replace hT : Hid _ := exp_plus hT.out hx t35
            clear hx t35
            go_wp2_with fail
            refine (digits_any h35).mono ?_
            rintro e w36 ⟨q36, le36, rfl, h36, t36, i36, b36⟩
            replace hB := hB.trans b36
            clear h35 b36
            replace hT : Hid _ := exp_fin hT.out t36 i36
            clear t36 i36
            go_wp2
            go_ret
            exact ⟨_, q36, rfl, hT.out, h36, hB⟩
          | false =>
            replace hT : Hid _ := exp_noplus hT.out hx t35
            clear hx t35
            go_wp2_with fail
            refine (next_any 45 h35).mono ?_
            rintro e w37 ⟨rfl, q37, h37, t37, b37⟩
            replace hB := hB.trans b37
            clear h35 b37
            replace hT : Hid _ := exp_minus hT.out t37
            clear t37
            go_wp2_with fail
            refine (digits_any h37).mono ?_
            rintro e w38 ⟨q38, le38, rfl, h38, t38, i38, b38⟩
            replace hB := hB.trans b38
            clear h37 b38
            replace hT : Hid _ := exp_fin hT.out t38 i38
            clear t38 i38
            go_wp2
            go_ret
            exact ⟨_, q38, rfl, hT.out, h38, hB⟩
        | false =>
          replace hT : Hid _ := exp_noe hT.out hx t34
          clear hx t34
          go_wp2_with fail
          refine (next_any 69 h34).mono ?_
          rintro e w39 ⟨rfl, q39, h39, t39, b39⟩
          replace hB := hB.trans b39
          clear h34 b39
          cases hx : nxt 69 (tl S n q34) with
          | true =>
            replace hT : Hid _ := exp_E hT.out hx t39
            clear hx t39
            go_wp2_with fail
            refine (next_any 43 h39).mono ?_
            rintro e w40 ⟨rfl, q40, h40, t40, b40⟩
            replace hB := hB.trans b40
            clear h39 b40
            cases hx : nxt 43 (tl S n q39) with
            | true =>
              replace hT : Hid _ := exp_plus hT.out hx t40
              clear hx t40
              go_wp2_with fail
              refine (digits_any h40).mono ?_
              rintro e w41 ⟨q41, le41, rfl, h41, t41, i41, b41⟩
              replace hB := hB.trans b41
              clear h40 b41
              replace hT : Hid _ := exp_fin hT.out t41 i41
              clear t41 i41
              go_wp2
              go_ret
              exact ⟨_, q41, rfl, hT.out, h41, hB⟩
            | false =>
              replace hT : Hid _ := exp_noplus hT.out hx t40
              clear hx t40
              go_wp2_with fail
              refine (next_any 45 h40).mono ?_
              rintro e w42 ⟨rfl, q42, h42, t42, b42⟩
              replace hB := hB.trans b42
              clear h40 b42
              replace hT : Hid _ := exp_minus hT.out t42
              clear t42
              go_wp2_with fail
              refine (digits_any h42).mono ?_
              rintro e w43 ⟨q43, le43, rfl, h43, t43, i43, b43⟩
              replace hB := hB.trans b43
              clear h42 b43
              replace hT : Hid _ := exp_fin hT.out t43 i43
              clear t43 i43
              go_wp2
              go_ret
              exact ⟨_, q43, rfl, hT.out, h43, hB⟩
          | false =>
            replace hT : Hid _ := exp_noE hT.out hx t39
            clear hx t39
            go_wp2
            go_ret
            exact ⟨_, q39, rfl, hT.out, h39, hB⟩
      | true =>
        replace hT : Hid _ := frac_yes hT.out hx t33
        clear hx t33
        go_wp2_with fail
        refine (digits_any h33).mono ?_
        rintro e w44 ⟨q44, le44, rfl, h44, t44, i44, b44⟩
        replace hB := hB.trans b44
        clear h33 b44
        cases hy : hasD (tl S n q33) with
        | false =>
          replace hT : Hid _ := frac_bad hT.out hy t44
          have hz := dig_zero i44 hy le44
          clear t44 i44 hy
          go_wp2
          go_ret
          exact ⟨_, q44, rfl, hT.out, h44, hB⟩
        | true =>
          replace hT : Hid _ := frac_good hT.out hy t44
          have hz := dig_some i44 hy le44
          clear t44 i44 hy
          go_wp2_with fail
          refine (next_any 101 h44).mono ?_
          rintro e w45 ⟨rfl, q45, h45, t45, b45⟩
          replace hB := hB.trans b45
          clear h44 b45
          cases hx : nxt 101 (tl S n q44) with
          | true =>
            replace hT : Hid _ := exp_e hT.out hx t45
            clear hx t45
            go_wp2_with fail
            refine (next_any 43 h45).mono ?_
            rintro e w46 ⟨rfl, q46, h46, t46, b46⟩
            replace hB := hB.trans b46
            clear h45 b46
            cases hx : nxt 43 (tl S n q45) with
            | true =>
              replace hT : Hid _ := exp_plus hT.out hx t46
              clear hx t46
              go_wp2_with fail
              refine (digits_any h46).mono ?_
              rintro e w47 ⟨q47, le47, rfl, h47, t47, i47, b47⟩
              replace hB := hB.trans b47
              clear h46 b47
              replace hT : Hid _ := exp_fin hT.out t47 i47
              clear t47 i47
              go_wp2
              go_ret
              exact ⟨_, q47, rfl, hT.out, h47, hB⟩
            | false =>
              replace hT : Hid _ := exp_noplus hT.out hx t46
              clear hx t46
              go_wp2_with fail
              refine (next_any 45 h46).mono ?_
              rintro e w48 ⟨rfl, q48, h48, t48, b48⟩
              replace hB := hB.trans b48
              clear h46 b48
              replace hT : Hid _ := exp_minus hT.out t48
              clear t48
              go_wp2_with fail
              refine (digits_any h48).mono ?_
              rintro e w49 ⟨q49, le49, rfl, h49, t49, i49, b49⟩
              replace hB := hB.trans b49
              clear h48 b49
              replace hT : Hid _ := exp_fin hT.out t49 i49
              clear t49 i49
              go_wp2
              go_ret
              exact ⟨_, q49, rfl, hT.out, h49, hB⟩
          | false =>
            replace hT : Hid _ := exp_noe hT.out hx t45
            clear hx t45
            go_wp2_with fail
            refine (next_any 69 h45).mono ?_
            rintro e w50 ⟨rfl, q50, h50, t50, b50⟩
            replace hB := hB.trans b50
            clear h45 b50
            cases hx : nxt 69 (tl S n q45) with
            | true =>
              replace hT : Hid _ := exp_E hT.out hx t50
              clear hx t50
              go_wp2_with fail
              refine (next_any 43 h50).mono ?_
              rintro e w51 ⟨rfl, q51, h51, t51, b51⟩
              replace hB := hB.trans b51
              clear h50 b51
              cases hx : nxt 43 (tl S n q50) with
              | true =>
                replace hT : Hid _ := exp_plus hT.out hx t51
                clear hx t51
                go_wp2_with fail
                refine (digits_any h51).mono ?_
                rintro e w52 ⟨q52, le52, rfl, h52, t52, i52, b52⟩
                replace hB := hB.trans b52
                clear h51 b52
                replace hT : Hid _ := exp_fin hT.out t52 i52
                clear t52 i52
                go_wp2
                go_ret
                exact ⟨_, q52, rfl, hT.out, h52, hB⟩
              | false =>
                replace hT : Hid _ := exp_noplus hT.out hx t51
                clear hx t51
                go_wp2_with fail
                refine (next_any 45 h51).mono ?_
                rintro e w53 ⟨rfl, q53, h53, t53, b53⟩
                replace hB := hB.trans b53
                clear h51 b53
                replace hT : Hid _ := exp_minus hT.out t53
                clear t53
                go_wp2_with fail
                refine (digits_any h53).mono ?_
                rintro e w54 ⟨q54, le54, rfl, h54, t54, i54, b54⟩
                replace hB := hB.trans b54
                clear h53 b54
                replace hT : Hid _ := exp_fin hT.out t54 i54
                clear t54 i54
                go_wp2
                go_ret
                exact ⟨_, q54, rfl, hT.out, h54, hB⟩
            | false =>
              replace hT : Hid _ := exp_noE hT.out hx t50
              clear hx t50
              go_wp2
              go_ret
              exact ⟨_, q50, rfl, hT.out, h50, hB⟩
end Go.Proofs.Qxb6604447a
