/- FnNumberTextReadsAWrittenNumber (4), walked; the ways through each 'if' meet again. -/
import Derived.Test.Qxb6604447aWalkE
import Derived.Deep.DeepCutAuto
namespace Go.Proofs.Qxb6604447a
open Go.RowKit
set_option linter.unusedVariables false

/-- Behind the test of the suffix. -/
def RegP (w : World) (S : Nat → Int) (m : Nat) (s : Value) (wx : World) : Prop := w = wx ∧ ∃ r, s = .bool r ∧ (r = false → stops (pre S m) = true)
/-- What the variable 'data' holds where the ways meet. -/
def At (N : Nat) (wN : World) (l : List Int) (B : Nat) (s : Value) (wx : World) : Prop := ∃ ao n cap, s = .slice ao n cap ∧ Hid (n ≤ B) ∧ D wx N ao n cap l ∧ Below N wN wx

set_option maxRecDepth 100000 in
set_option maxHeartbeats 8000000 in
theorem law4 (a0 : Option Addr) (m0 c0 : Nat) (S0 : Nat → Int) (b1 : Bool) (a2 : Option Addr) (m2 c2 : Nat) (S2 : Nat → Int) (b3 : Bool) (a4 : Option Addr) (m4 c4 : Nat) (S4 : Nat → Int) (em es : Int) (a7 : Option Addr) (m7 c7 : Nat) (S7 : Nat → Int) (a8 : Option Addr) (m8 c8 : Nat) (S8 : Nat → Int) (w : World)
    (hx0 : Byts w a0 m0 c0 S0) (hx2 : Byts w a2 m2 c2 S2) (hx4 : Byts w a4 m4 c4 S4) (hx7 : Byts w a7 m7 c7 S7) (hx8 : Byts w a8 m8 c8 S8) (z0 : Hid (a0 = none → m0 = 0)) (z2 : Hid (a2 = none → m2 = 0)) (z4 : Hid (a4 = none → m4 = 0)) (z7 : Hid (a7 = none → m7 = 0)) (z8 : Hid (a8 = none → m8 = 0))
    (y0 : m0 ≤ maxLen) (y2 : m2 ≤ maxLen) (y4 : m4 ≤ maxLen) (y7 : m7 ≤ maxLen) (y8 : m8 ≤ maxLen) (r0 : Hid (∀ k, 0 ≤ S0 k ∧ S0 k ≤ 255)) (r2 : Hid (∀ k, 0 ≤ S2 k ∧ S2 k ≤ 255)) (r4 : Hid (∀ k, 0 ≤ S4 k ∧ S4 k ≤ 255)) (r7 : Hid (∀ k, 0 ≤ S7 k ∧ S7 k ≤ 255)) (r8 : Hid (∀ k, 0 ≤ S8 k ∧ S8 k ≤ 255)) :
    Calls Try.prog 4 #[.slice a0 m0 c0, .bool b1, .slice a2 m2 c2, .bool b3, .slice a4 m4 c4, .int .u8 em, .int .u8 es, .slice a7 m7 c7, .slice a8 m8 c8] w fun e w' => e = .returned (.bool true) ∧ Below w.heap.size w w' := by
  go_enter Try.func4, Try.ntmps4
  go_wp2_with fail
  refine (bytes10 a0 m0 c0 b1 a2 m2 c2 b3 a4 m4 c4 em es a7 m7 c7 a8 m8 c8 w y0 y2 y4 y7 y8).mono ?_
  rintro e w1 ⟨ok, rfl, rfl, hsum⟩
  clear y0 y2 y4 y7 y8
  cases ok with
  | false =>
    clear hsum
    go_wp2
    go_ret
    exact ⟨rfl, Below.refl _ _⟩
  | true =>
    have hsum := hsum rfl
    have k0 : m0 ≤ 1048576 := by omega
    have k2 : m2 ≤ 1048576 := by omega
    have k4 : m4 ≤ 1048576 := by omega
    have k7 : m7 ≤ 1048576 := by omega
    have k8 : m8 ≤ 1048576 := by omega
    go_upto_region 7 with fail
    go_cut [81] (fun s wx => RegP w1 S8 m8 s wx)
    case first =>
      by_cases h8 : m8 = 0
      · subst h8
        go_wp2
        go_meet
        exact ⟨rfl, false, rfl, fun _ => rfl⟩
      · have p8 : 0 < m8 := by omega
        obtain ⟨b8, o8, rfl, hb8, q8⟩ := hx8.at 0 p8
        rw [Nat.add_zero] at q8
        go_wp2_with fail
        refine (continues_any (S8 0) _).mono ?_
        rintro e w2 ⟨r, rfl, rfl, hr⟩
        have hst : Hid (r = false → stops (pre S8 m8) = true) := fun h => stops_cons h8 (hr h)
        clear hr
        go_wp2
        go_meet
        exact ⟨rfl, r, rfl, hst.out⟩
    case rest =>
      obtain ⟨rfl, r, rfl, hr⟩ := hcut
      cases r with
      | true =>
        clear hr
        go_wp2
        go_ret
        exact ⟨rfl, Below.refl _ _⟩
      | false =>
        have HS : Hid (stops (pre S8 m8) = true) := hr rfl
        clear hr
        go_wp2_with fail
        refine (clone_src a0 m0 c0 S0 _ (by omega) z0.out hx0).mono ?_
        rintro e v0 ⟨d0, e0, rfl, hy0, nk0, g0⟩
        have nl0 : Hid _ := nk0
        clear nk0
        replace hx2 := hx2.below g0
        replace hx4 := hx4.below g0
        replace hx7 := hx7.below g0
        replace hx8 := hx8.below g0
        have hB0 : Below w1.heap.size w1 v0 := g0
        clear hx0 g0
        go_wp2_with fail
        refine (clone_src a2 m2 c2 S2 _ (by omega) z2.out hx2).mono ?_
        rintro e v2 ⟨d2, e2, rfl, hy2, nk2, g2⟩
        have nl2 : Hid _ := nk2
        clear nk2
        replace hx4 := hx4.below g2
        replace hx7 := hx7.below g2
        replace hx8 := hx8.below g2
        replace hy0 := hy0.below g2
        replace hB0 := hB0.trans (g2.mono hB0.size)
        clear hx2 g2
        go_wp2_with fail
        refine (clone_src a4 m4 c4 S4 _ (by omega) z4.out hx4).mono ?_
        rintro e v4 ⟨d4, e4, rfl, hy4, nk4, g4⟩
        have nl4 : Hid _ := nk4
        clear nk4
        replace hx7 := hx7.below g4
        replace hx8 := hx8.below g4
        replace hy0 := hy0.below g4
        replace hy2 := hy2.below g4
        replace hB0 := hB0.trans (g4.mono hB0.size)
        clear hx4 g4
        go_wp2_with fail
        refine (clone_src a7 m7 c7 S7 _ (by omega) z7.out hx7).mono ?_
        rintro e v7 ⟨d7, e7, rfl, hy7, nk7, g7⟩
        have nl7 : Hid _ := nk7
        clear nk7
        replace hx8 := hx8.below g7
        replace hy0 := hy0.below g7
        replace hy2 := hy2.below g7
        replace hy4 := hy4.below g7
        replace hB0 := hB0.trans (g7.mono hB0.size)
        clear hx7 g7
        go_wp2_with fail
        refine (clone_src a8 m8 c8 S8 _ (by omega) z8.out hx8).mono ?_
        rintro e v8 ⟨d8, e8, rfl, hy8, nk8, g8⟩
        have nl8 : Hid _ := nk8
        clear nk8
        replace hy0 := hy0.below g8
        replace hy2 := hy2.below g8
        replace hy4 := hy4.below g8
        replace hy7 := hy7.below g8
        replace hB0 := hB0.trans (g8.mono hB0.size)
        clear hx8 g8
        have hS0 := src_of hy0 nl0.out r0.out
        have hS2 := src_of hy2 nl2.out r2.out
        have hS4 := src_of hy4 nl4.out r4.out
        have hS7 := src_of hy7 nl7.out r7.out
        have hS8 := src_of hy8 nl8.out r8.out
        clear hy0 hy2 hy4 hy7 hy8
        obtain ⟨N, hN⟩ : ∃ N, N = v8.heap.size := ⟨_, rfl⟩
        rw [← hN] at hS0 hS2 hS4 hS7 hS8
        have hle : w1.heap.size ≤ N := by rw [hN]; exact hB0.size
        obtain ⟨wN, rfl⟩ : ∃ wN, wN = v8 := ⟨_, rfl⟩
        have HK : Hid (m0 ≤ 1048576 ∧ m2 ≤ 1048576 ∧ m4 ≤ 1048576 ∧ m7 ≤ 1048576 ∧ m8 ≤ 1048576) := ⟨k0, k2, k4, k7, k8⟩
        clear hsum k0 k2 k4 k7 k8
        have hD0 : D wN N none 0 0 [] := D.nil wN N (Nat.le_of_eq hN)
        have HN : Hid _ := hN
        clear hN
        go_upto_if 97 with (at_builtin; refine wpList_app rfl _ _ rfl N none 0 0 _ rfl hD0 d0 m0 e0 S0 rfl hS0 (by have := HK.out; omega) ?_; intro ao1 n1 cap1 wA hD1 hB)
        replace hD1 := hD1.cast (List.nil_append _)
        have L1 : Hid _ := hD1.len
        have hb1 : Hid (n1 ≤ 1048576) := by rw [L1.out, pre_length]; exact HK.out.1
        clear hD0
        go_cut [19] (fun s wx => At N wN (pre S0 m0 ++ negT b1) 1048577 s wx)
        case first =>
          cases b1 with
          | true =>
            go_wp2_with (at_builtin; refine wpList_app1 rfl _ _ rfl N ao1 n1 cap1 _ rfl hD1 45 rfl (by have := hb1.out; omega) ?_; intro ao2 n2 cap2 wB hD2 hB2)
            go_meet
            exact ⟨ao2, n2, cap2, rfl, hD1.bound hD2 hb1.out (show [_].length ≤ 1 from Nat.le_refl _), hD2, hB.trans hB2⟩
          | false =>
            go_wp2
            go_meet
            exact ⟨ao1, n1, cap1, rfl, Nat.le_succ_of_le hb1.out, hD1.cast (by simp [negT]), hB⟩
        case rest =>
          clear hD1 hB hb1
          obtain ⟨ao2, n2, cap2, rfl, hb2, hD2, hB⟩ := hcut
          go_wp2_with fail
          refine (whole_app ao2 n2 cap2 _ d2 m2 e2 S2 N _ hD2 (hS2.below hB) (by have := hb2.out; have := HK.out; omega)).mono ?_
          rintro e wC ⟨ao3, n3, cap3, rfl, hD3, hB3⟩
          have hb3 : Hid (n3 ≤ 1048577 + 1048577) := hD2.bound hD3 hb2.out (Nat.le_trans (whl_len _) (by rw [pre_length]; have := HK.out; omega))
          replace hB := hB.trans hB3
          clear hD2 hb2 hB3
          go_upto_if 104 with fail
          go_cut [19] (fun s wx => At N wN (pre S0 m0 ++ negT b1 ++ whl (pre S2 m2) ++ fracT b3 (pre S4 m4)) 3145732 s wx)
          case first =>
            cases b3 with
            | true =>
              go_wp2_with (at_builtin; refine wpList_app1 rfl _ _ rfl N ao3 n3 cap3 _ rfl hD3 46 rfl (by have := hb3.out; omega) ?_; intro ao4 n4 cap4 wD hD4 hB4)
              have hb4 : Hid _ := hD3.bound hD4 hb3.out (show [_].length ≤ 1 from Nat.le_refl _)
              replace hB := hB.trans hB4
              clear hB4 hD3 hb3
              refine (digits_app ao4 n4 cap4 _ d4 m4 e4 S4 N _ hD4 (hS4.below hB) (by have := hb4.out; have := HK.out; omega)).mono ?_
              rintro e wE ⟨ao5, n5, cap5, rfl, hD5, hB5⟩
              have hb5 : Hid _ := hD4.bound hD5 hb4.out (show _ ≤ 1048577 from Nat.le_trans (dgs_len _) (by rw [pre_length]; have := HK.out; omega))
              replace hB := hB.trans hB5
              clear hB5 hD4 hb4
              go_wp2
              go_meet
              exact ⟨ao5, n5, cap5, rfl, Nat.le_trans hb5.out (by decide), hD5.cast (by simp [fracT]), hB⟩
            | false =>
              go_wp2
              go_meet
              exact ⟨ao3, n3, cap3, rfl, Nat.le_trans hb3.out (by decide), hD3.cast (by simp [fracT]), hB⟩
          case rest =>
            clear hD3 hB hb3
            obtain ⟨ao6, n6, cap6, rfl, hb6, hD6, hB⟩ := hcut
            go_upto_if 112 with fail
            go_cut [19] (fun s wx => At N wN (pre S0 m0 ++ negT b1 ++ whl (pre S2 m2) ++ fracT b3 (pre S4 m4) ++ expT em es (pre S7 m7)) 4194311 s wx)
            case first =>
              by_cases hem0 : em = 0
              · subst hem0
                go_wp2
                go_meet
                exact ⟨ao6, n6, cap6, rfl, Nat.le_trans hb6.out (by decide), hD6.cast (by simp [expT]), hB⟩
              · have x0 : (em == 0) = false := by simpa using hem0
                have x0' : (em != 0) = true := by simpa using hem0
                by_cases hem1 : em = 1
                · subst hem1
                  by_cases hes1 : es = 1
                  · subst hes1
                    go_wp2_with (first | (at_builtin; refine wpList_app1 rfl _ _ rfl N ao6 n6 cap6 _ rfl hD6 101 rfl (by have := hb6.out; omega) ?_; intro ao7 n7 cap7 wG hD7 hB7; have hb7 : Hid _ := hD6.bound hD7 hb6.out (show [_].length ≤ 1 from Nat.le_refl _); replace hB := hB.trans hB7; clear hB7 hD6 hb6) | (at_builtin; refine wpList_app1 rfl _ _ rfl N ao7 n7 cap7 _ rfl hD7 43 rfl (by have := hb7.out; omega) ?_; intro ao8 n8 cap8 wH hD8 hB8; have hb8 : Hid _ := hD7.bound hD8 hb7.out (show [_].length ≤ 1 from Nat.le_refl _); replace hB := hB.trans hB8; clear hB8 hD7 hb7))
                    refine (digits_app ao8 n8 cap8 _ d7 m7 e7 S7 N _ hD8 (hS7.below hB) (by have := hb8.out; have := HK.out; omega)).mono ?_
                    rintro e wI ⟨ao9, n9, cap9, rfl, hD9, hB9⟩
                    have hb9 : Hid _ := hD8.bound hD9 hb8.out (show _ ≤ 1048577 from Nat.le_trans (dgs_len _) (by rw [pre_length]; have := HK.out; omega))
                    replace hB := hB.trans hB9
                    clear hB9 hD8 hb8
                    go_wp2
                    go_meet
                    exact ⟨ao9, n9, cap9, rfl, Nat.le_trans hb9.out (by decide), hD9.cast (by simp [expT]), hB⟩
                  · have y1 : (es == 1) = false := by simpa using hes1
                    by_cases hes2 : es = 2
                    · subst hes2
                      go_wp2_with (first | (at_builtin; refine wpList_app1 rfl _ _ rfl N ao6 n6 cap6 _ rfl hD6 101 rfl (by have := hb6.out; omega) ?_; intro ao7 n7 cap7 wG hD7 hB7; have hb7 : Hid _ := hD6.bound hD7 hb6.out (show [_].length ≤ 1 from Nat.le_refl _); replace hB := hB.trans hB7; clear hB7 hD6 hb6) | (at_builtin; refine wpList_app1 rfl _ _ rfl N ao7 n7 cap7 _ rfl hD7 45 rfl (by have := hb7.out; omega) ?_; intro ao8 n8 cap8 wH hD8 hB8; have hb8 : Hid _ := hD7.bound hD8 hb7.out (show [_].length ≤ 1 from Nat.le_refl _); replace hB := hB.trans hB8; clear hB8 hD7 hb7))
                      refine (digits_app ao8 n8 cap8 _ d7 m7 e7 S7 N _ hD8 (hS7.below hB) (by have := hb8.out; have := HK.out; omega)).mono ?_
                      rintro e wI ⟨ao9, n9, cap9, rfl, hD9, hB9⟩
                      have hb9 : Hid _ := hD8.bound hD9 hb8.out (show _ ≤ 1048577 from Nat.le_trans (dgs_len _) (by rw [pre_length]; have := HK.out; omega))
                      replace hB := hB.trans hB9
                      clear hB9 hD8 hb8
                      go_wp2
                      go_meet
                      exact ⟨ao9, n9, cap9, rfl, Nat.le_trans hb9.out (by decide), hD9.cast (by simp [expT]), hB⟩
                    · have y2 : (es == 2) = false := by simpa using hes2
                      go_wp2_with (first | (at_builtin; refine wpList_app1 rfl _ _ rfl N ao6 n6 cap6 _ rfl hD6 101 rfl (by have := hb6.out; omega) ?_; intro ao7 n7 cap7 wG hD7 hB7; have hb7 : Hid _ := hD6.bound hD7 hb6.out (show [_].length ≤ 1 from Nat.le_refl _); replace hB := hB.trans hB7; clear hB7 hD6 hb6))
                      refine (digits_app ao7 n7 cap7 _ d7 m7 e7 S7 N _ hD7 (hS7.below hB) (by have := hb7.out; have := HK.out; omega)).mono ?_
                      rintro e wI ⟨ao9, n9, cap9, rfl, hD9, hB9⟩
                      have hb9 : Hid _ := hD7.bound hD9 hb7.out (show _ ≤ 1048577 from Nat.le_trans (dgs_len _) (by rw [pre_length]; have := HK.out; omega))
                      replace hB := hB.trans hB9
                      clear hB9 hD7 hb7
                      go_wp2
                      go_meet
                      exact ⟨ao9, n9, cap9, rfl, Nat.le_trans hb9.out (by decide), hD9.cast (by simp [expT, hes1, hes2]), hB⟩
                · have x1 : (em == 1) = false := by simpa using hem1
                  by_cases hes1 : es = 1
                  · subst hes1
                    go_wp2_with (first | (at_builtin; refine wpList_app1 rfl _ _ rfl N ao6 n6 cap6 _ rfl hD6 69 rfl (by have := hb6.out; omega) ?_; intro ao7 n7 cap7 wG hD7 hB7; have hb7 : Hid _ := hD6.bound hD7 hb6.out (show [_].length ≤ 1 from Nat.le_refl _); replace hB := hB.trans hB7; clear hB7 hD6 hb6) | (at_builtin; refine wpList_app1 rfl _ _ rfl N ao7 n7 cap7 _ rfl hD7 43 rfl (by have := hb7.out; omega) ?_; intro ao8 n8 cap8 wH hD8 hB8; have hb8 : Hid _ := hD7.bound hD8 hb7.out (show [_].length ≤ 1 from Nat.le_refl _); replace hB := hB.trans hB8; clear hB8 hD7 hb7))
                    refine (digits_app ao8 n8 cap8 _ d7 m7 e7 S7 N _ hD8 (hS7.below hB) (by have := hb8.out; have := HK.out; omega)).mono ?_
                    rintro e wI ⟨ao9, n9, cap9, rfl, hD9, hB9⟩
                    have hb9 : Hid _ := hD8.bound hD9 hb8.out (show _ ≤ 1048577 from Nat.le_trans (dgs_len _) (by rw [pre_length]; have := HK.out; omega))
                    replace hB := hB.trans hB9
                    clear hB9 hD8 hb8
                    go_wp2
                    go_meet
                    exact ⟨ao9, n9, cap9, rfl, Nat.le_trans hb9.out (by decide), hD9.cast (by simp [expT, hem0, hem1]), hB⟩
                  · have y1 : (es == 1) = false := by simpa using hes1
                    by_cases hes2 : es = 2
                    · subst hes2
                      go_wp2_with (first | (at_builtin; refine wpList_app1 rfl _ _ rfl N ao6 n6 cap6 _ rfl hD6 69 rfl (by have := hb6.out; omega) ?_; intro ao7 n7 cap7 wG hD7 hB7; have hb7 : Hid _ := hD6.bound hD7 hb6.out (show [_].length ≤ 1 from Nat.le_refl _); replace hB := hB.trans hB7; clear hB7 hD6 hb6) | (at_builtin; refine wpList_app1 rfl _ _ rfl N ao7 n7 cap7 _ rfl hD7 45 rfl (by have := hb7.out; omega) ?_; intro ao8 n8 cap8 wH hD8 hB8; have hb8 : Hid _ := hD7.bound hD8 hb7.out (show [_].length ≤ 1 from Nat.le_refl _); replace hB := hB.trans hB8; clear hB8 hD7 hb7))
                      refine (digits_app ao8 n8 cap8 _ d7 m7 e7 S7 N _ hD8 (hS7.below hB) (by have := hb8.out; have := HK.out; omega)).mono ?_
                      rintro e wI ⟨ao9, n9, cap9, rfl, hD9, hB9⟩
                      have hb9 : Hid _ := hD8.bound hD9 hb8.out (show _ ≤ 1048577 from Nat.le_trans (dgs_len _) (by rw [pre_length]; have := HK.out; omega))
                      replace hB := hB.trans hB9
                      clear hB9 hD8 hb8
                      go_wp2
                      go_meet
                      exact ⟨ao9, n9, cap9, rfl, Nat.le_trans hb9.out (by decide), hD9.cast (by simp [expT, hem0, hem1]), hB⟩
                    · have y2 : (es == 2) = false := by simpa using hes2
                      go_wp2_with (first | (at_builtin; refine wpList_app1 rfl _ _ rfl N ao6 n6 cap6 _ rfl hD6 69 rfl (by have := hb6.out; omega) ?_; intro ao7 n7 cap7 wG hD7 hB7; have hb7 : Hid _ := hD6.bound hD7 hb6.out (show [_].length ≤ 1 from Nat.le_refl _); replace hB := hB.trans hB7; clear hB7 hD6 hb6))
                      refine (digits_app ao7 n7 cap7 _ d7 m7 e7 S7 N _ hD7 (hS7.below hB) (by have := hb7.out; have := HK.out; omega)).mono ?_
                      rintro e wI ⟨ao9, n9, cap9, rfl, hD9, hB9⟩
                      have hb9 : Hid _ := hD7.bound hD9 hb7.out (show _ ≤ 1048577 from Nat.le_trans (dgs_len _) (by rw [pre_length]; have := HK.out; omega))
                      replace hB := hB.trans hB9
                      clear hB9 hD7 hb7
                      go_wp2
                      go_meet
                      exact ⟨ao9, n9, cap9, rfl, Nat.le_trans hb9.out (by decide), hD9.cast (by simp [expT, hem0, hem1, hes1, hes2]), hB⟩
            case rest =>
              clear hD6 hB hb6
              obtain ⟨ao7, n7, cap7, rfl, hb7, hD7, hB⟩ := hcut
              have hE := hD7.cast (l' := pre S0 m0 ++ num b1 (pre S2 m2) b3 (pre S4 m4) em es (pre S7 m7)) (by simp [num])
              have L2 : Hid _ := hE.len
              clear hD7
              go_wp2_with (at_builtin; refine wpList_app rfl _ _ rfl N ao7 n7 cap7 _ rfl hE d8 m8 e8 S8 rfl (hS8.below hB) (by have := hb7.out; have := HK.out; omega) ?_; intro ao8 n8 cap8 wJ hD8 hB8)
              have hb8 : Hid _ := hE.bound hD8 hb7.out (show _ ≤ 1048576 by rw [pre_length]; have := HK.out; omega)
              replace hB := hB.trans hB8
              clear hB8 hE hb7
              have le1 := final_le hD8 L1.out
              refine (zznumber_any ao8 n8 cap8 n1 _ wJ hD8.byts le1 (by have := hb8.out; omega)).mono ?_
              rintro e wz ⟨ok, q, rfl, hT, hq, hBz⟩
              obtain ⟨rfl, rfl⟩ := final hD8 L1.out L2.out HS.out hT hq
              replace hB := hB.trans (hBz.mono hD8.sz)
              clear hT hD8 hBz le1 L1 L2 HS
              go_wp2
              go_ret
              exact ⟨rfl, hB0.trans (hB.mono hle)⟩
end Go.Proofs.Qxb6604447a
