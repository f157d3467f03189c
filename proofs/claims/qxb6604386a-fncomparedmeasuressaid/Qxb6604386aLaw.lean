/- The walk of FnComparedMeasures (3). -/
import Derived.Test.Qxb6604386aWalkB
namespace Go.Proofs.Qxb6604386a
open Go.RowKit
set_option linter.unusedVariables false
attribute [local go_sem] run_store_float

set_option maxHeartbeats 800000 in
theorem zzcompared_any (nm : ByteArray) (md vv hw : Nat) (hv hh : Bool) (w : World) (hl : nm.size ≤ 1048576) :
    Calls Try.prog 6 #[.string nm, .float .f64 md, .float .f64 vv, .float .f64 hw, .bool hv, .bool hh] w fun e w' => CPost w nm md vv hw hv hh e w' := by
  go_enter Try.func6, Try.ntmps6
  go_wp2_with fail
  refine (compared_any nm md vv hw hv hh w hl).mono ?_
  rintro e w1 ⟨g, q, rfl, h1, h2, h3, h4, h5⟩
  go_wp2
  go_ret
  exact ⟨g, q, rfl, h1, h2, h3, h4, h5⟩

open Ieee in
/-- A float whose absolute value is at most 1e150 is a number. -/
theorem abs_le_fin {x : Nat} (h : (double.order (Fl.absB x) 6850974717710472879 == some .lt || double.order (Fl.absB x) 6850974717710472879 == some .eq) = true) : ∃ A, Fl.Fin x A ∧ (A.natAbs : Int) ≤ Fl.kHi := by
  have rh : double.read 6850974717710472879 = .number false 5503284107318959 446 := by decide +kernel
  have r0 : double.read 0 = .number false 0 (-1074) := by decide +kernel
  cases hr : double.read x with
  | number s m i =>
    have hf := Fl.fin_of_read hr
    refine ⟨_, hf, ?_⟩
    rw [Fl.leq_fin (Fl.abs_fin hf) Fl.fin_hi] at h
    exact of_decide_eq_true h
  | infinity s =>
    exfalso
    have ha : double.read (Fl.absB x) = .infinity false := by
      unfold Fl.absB Format.order
      rw [hr, r0]
      cases s
      · simp [Datum.order, hr]
      · rw [if_pos (by simp [Datum.order]), Fl.read_flip, hr]; rfl
    unfold Format.order at h
    rw [ha, rh] at h
    simp [Datum.order] at h
  | nan s t =>
    exfalso
    have ha : double.read (Fl.absB x) = .nan s t := by
      unfold Fl.absB Format.order
      rw [hr, r0]
      simp [Datum.order, hr]
    unfold Format.order at h
    rw [ha, rh] at h
    simp [Datum.order] at h

/-- The measures as they lie. -/
def MS (W : World) (g : Nat) (nm : ByteArray) (md vv hw q : Nat) (hv hh df : Bool) : Prop :=
  g < W.heap.size ∧ ∀ j v, (measures nm md vv hw q hv hh df)[j]? = some v → W.cell? ⟨g, j, none⟩ = some v
theorem MS.below {W W' : World} {g : Nat} {nm : ByteArray} {md vv hw q : Nat} {hv hh df : Bool} (h : MS W g nm md vv hw q hv hh df) (hb : Below W.heap.size W W') : MS W' g nm md vv hw q hv hh df :=
  ⟨Nat.lt_of_lt_of_le h.1 hb.size, fun j v hj => (hb.cell (p := ⟨g, j, none⟩) h.1).trans (h.2 j v hj)⟩
theorem MS.at0 {W : World} {g : Nat} {nm : ByteArray} {md vv hw q : Nat} {hv hh df : Bool} (h : MS W g nm md vv hw q hv hh df) :
    W.cell? ⟨g, 0, none⟩ = some (.string (nm ++ { data := #[95, 97, 110, 97, 108, 121, 116, 105, 99] })) ∧ W.cell? ⟨g, 1, none⟩ = some (.float .f64 md) ∧ W.cell? ⟨g, 2, none⟩ = some (.bool true) := ⟨h.2 0 _ rfl, h.2 1 _ rfl, h.2 2 _ rfl⟩
theorem MS.at1 {W : World} {g : Nat} {nm : ByteArray} {md vv hw q : Nat} {hv hh df : Bool} (h : MS W g nm md vv hw q hv hh df) :
    W.cell? ⟨g, 3, none⟩ = some (.string (nm ++ { data := #[95, 115, 105, 109, 117, 108, 97, 116, 101, 100] })) ∧ W.cell? ⟨g, 4, none⟩ = some (.float .f64 vv) ∧ W.cell? ⟨g, 5, none⟩ = some (.bool hv) := ⟨h.2 3 _ rfl, h.2 4 _ rfl, h.2 5 _ rfl⟩
theorem MS.at2 {W : World} {g : Nat} {nm : ByteArray} {md vv hw q : Nat} {hv hh df : Bool} (h : MS W g nm md vv hw q hv hh df) :
    W.cell? ⟨g, 6, none⟩ = some (.string (nm ++ { data := #[95, 99, 105, 57, 57] })) ∧ W.cell? ⟨g, 7, none⟩ = some (.float .f64 hw) ∧ W.cell? ⟨g, 8, none⟩ = some (.bool hh) := ⟨h.2 6 _ rfl, h.2 7 _ rfl, h.2 8 _ rfl⟩
theorem MS.at3 {W : World} {g : Nat} {nm : ByteArray} {md vv hw q : Nat} {hv hh df : Bool} (h : MS W g nm md vv hw q hv hh df) :
    W.cell? ⟨g, 9, none⟩ = some (.string (nm ++ { data := #[95, 101, 114, 114, 111, 114] })) ∧ W.cell? ⟨g, 10, none⟩ = some (.float .f64 q) ∧ W.cell? ⟨g, 11, none⟩ = some (.bool df) := ⟨h.2 9 _ rfl, h.2 10 _ rfl, h.2 11 _ rfl⟩

set_option maxRecDepth 100000 in
set_option maxHeartbeats 4000000 in
theorem law_true (nm : ByteArray) (md vv hw : Nat) (hh : Bool) (w : World) :
    Calls Try.prog 3 #[.string nm, .float .f64 md, .float .f64 vv, .float .f64 hw, .bool true, .bool hh] w fun e w' => e = .returned (.bool true) ∧ Below w.heap.size w w' := by
  by_cases hl : nm.size ≤ 1048576
  · go_enter Try.func3, Try.ntmps3
    go_wp2_with fail
    refine (bytes_yes nm md vv hw true hh w hl).mono ?_
    rintro e w1 ⟨rfl, rfl⟩
    go_wp2_with fail
    refine (zzcompared_any nm md vv hw true hh w1 hl).mono ?_
    rintro e w2 ⟨g, q, rfl, h1, h2, h3, hB, hq⟩
    obtain ⟨df, hdf⟩ : ∃ df, df = (true && (FloatKind.f64.format.order md 0 != some .eq)) := ⟨_, rfl⟩
    have hM : MS w2 g nm md vv hw q true hh df := ⟨h2, by rw [hdf]; exact h3⟩
    have HD : Hid (df = (true && (FloatKind.f64.format.order md 0 != some .eq))) := hdf
    clear h1 h2 h3 hdf
    go_wp2
    go_loopw [14] (fun i wr => ∃ k : Nat, k ≤ 4 ∧ i = .int .i64 k ∧ MS wr g nm md vv hw q true hh df ∧ Below w1.heap.size w1 wr) (fun i _ => 4 - (intOf i).toNat)
    case atStart => exact ⟨0, by omega, rfl, hM, hB⟩
    case round =>
      clear hM hB
      obtain ⟨k, hk, rfl, hM, hB⟩ := hrel
      rcases (show k = 0 ∨ k = 1 ∨ k = 2 ∨ k = 3 ∨ k = 4 by omega) with rfl | rfl | rfl | rfl | rfl
      · obtain ⟨c0, c1, c2⟩ := hM.at0
        go_wp2_with fail
        refine (name_any _ _ _ _).mono ?_
        rintro e w3 ⟨rfl, hb3⟩
        replace hM := hM.below hb3
        replace hB := hB.trans (hb3.mono hB.size)
        clear hb3 c0 c1 c2
        go_wp2_with fail
        refine (suffix0 _).mono ?_
        rintro e w4 ⟨rfl, rfl⟩
        go_wp2
        go_roundw
        case rel => exact ⟨1, by omega, rfl, hM, hB⟩
        case measure => simp [intOf]
      · obtain ⟨c0, c1, c2⟩ := hM.at1
        go_wp2_with fail
        refine (name_any _ _ _ _).mono ?_
        rintro e w3 ⟨rfl, hb3⟩
        replace hM := hM.below hb3
        replace hB := hB.trans (hb3.mono hB.size)
        clear hb3 c0 c1 c2
        go_wp2_with fail
        refine (suffix1 _).mono ?_
        rintro e w4 ⟨rfl, rfl⟩
        go_wp2
        go_roundw
        case rel => exact ⟨2, by omega, rfl, hM, hB⟩
        case measure => simp [intOf]
      · obtain ⟨c0, c1, c2⟩ := hM.at2
        go_wp2_with fail
        refine (name_any _ _ _ _).mono ?_
        rintro e w3 ⟨rfl, hb3⟩
        replace hM := hM.below hb3
        replace hB := hB.trans (hb3.mono hB.size)
        clear hb3 c0 c1 c2
        go_wp2_with fail
        refine (suffix2 _).mono ?_
        rintro e w4 ⟨rfl, rfl⟩
        go_wp2
        go_roundw
        case rel => exact ⟨3, by omega, rfl, hM, hB⟩
        case measure => simp [intOf]
      · obtain ⟨c0, c1, c2⟩ := hM.at3
        go_wp2_with fail
        refine (name_any _ _ _ _).mono ?_
        rintro e w3 ⟨rfl, hb3⟩
        replace hM := hM.below hb3
        replace hB := hB.trans (hb3.mono hB.size)
        clear hb3 c0 c1 c2
        go_wp2_with fail
        refine (suffix3 _).mono ?_
        rintro e w4 ⟨rfl, rfl⟩
        go_wp2
        go_roundw
        case rel => exact ⟨4, by omega, rfl, hM, hB⟩
        case measure => simp [intOf]
      · clear hk
        obtain ⟨c0, c1, c2⟩ := hM.at0
        go_wp2_with fail
        refine (value_any _ _ _ _).mono ?_
        rintro e w3 ⟨rfl, hb3⟩
        replace hM := hM.below hb3
        replace hB := hB.trans (hb3.mono hB.size)
        clear hb3 c0 c1 c2
        go_wp2_with fail
        refine (same_any _ _).mono ?_
        rintro e w4 ⟨rfl, rfl⟩
        obtain ⟨c0, c1, c2⟩ := hM.at0
        go_wp2_with fail
        refine (defined_any _ _ _ _).mono ?_
        rintro e w3 ⟨rfl, hb3⟩
        replace hM := hM.below hb3
        replace hB := hB.trans (hb3.mono hB.size)
        clear hb3 c0 c1 c2
        obtain ⟨c0, c1, c2⟩ := hM.at1
        go_wp2_with fail
        refine (value_any _ _ _ _).mono ?_
        rintro e w3 ⟨rfl, hb3⟩
        replace hM := hM.below hb3
        replace hB := hB.trans (hb3.mono hB.size)
        clear hb3 c0 c1 c2
        go_wp2_with fail
        refine (same_any _ _).mono ?_
        rintro e w4 ⟨rfl, rfl⟩
        obtain ⟨c0, c1, c2⟩ := hM.at1
        go_wp2_with fail
        refine (defined_any _ _ _ _).mono ?_
        rintro e w3 ⟨rfl, hb3⟩
        replace hM := hM.below hb3
        replace hB := hB.trans (hb3.mono hB.size)
        clear hb3 c0 c1 c2
        obtain ⟨c0, c1, c2⟩ := hM.at2
        go_wp2_with fail
        refine (value_any _ _ _ _).mono ?_
        rintro e w3 ⟨rfl, hb3⟩
        replace hM := hM.below hb3
        replace hB := hB.trans (hb3.mono hB.size)
        clear hb3 c0 c1 c2
        go_wp2_with fail
        refine (same_any _ _).mono ?_
        rintro e w4 ⟨rfl, rfl⟩
        obtain ⟨c0, c1, c2⟩ := hM.at2
        go_wp2_with fail
        refine (defined_any _ _ _ _).mono ?_
        rintro e w3 ⟨rfl, hb3⟩
        replace hM := hM.below hb3
        replace hB := hB.trans (hb3.mono hB.size)
        clear hb3 c0 c1 c2
        obtain ⟨c0, c1, c2⟩ := hM.at3
        go_wp2_with fail
        refine (defined_any _ _ _ _).mono ?_
        rintro e w3 ⟨rfl, hb3⟩
        replace hM := hM.below hb3
        replace hB := hB.trans (hb3.mono hB.size)
        clear hb3 c0 c1 c2
        rw [HD.out]
        go_wp2_with fail
        refine (abs_any md _).mono ?_
        rintro e w4 ⟨rfl, rfl⟩
        cases hlo : (FloatKind.f64.format.order (Fl.absB md) 2362753625475748981 == some .gt || FloatKind.f64.format.order (Fl.absB md) 2362753625475748981 == some .eq) with
        | false =>
          go_wp2
          go_ret
          exact ⟨rfl, hB⟩
        | true =>
          cases hhi : (FloatKind.f64.format.order (Fl.absB md) 6850974717710472879 == some .lt || FloatKind.f64.format.order (Fl.absB md) 6850974717710472879 == some .eq) with
          | false =>
            go_wp2
            go_ret
            exact ⟨rfl, hB⟩
          | true =>
            go_wp2_with fail
            refine (abs_any vv _).mono ?_
            rintro e w4 ⟨rfl, rfl⟩
            cases hva : (FloatKind.f64.format.order (Fl.absB vv) 6850974717710472879 == some .lt || FloatKind.f64.format.order (Fl.absB vv) 6850974717710472879 == some .eq) with
            | false =>
              go_wp2
              go_ret
              exact ⟨rfl, hB⟩
            | true =>
              obtain ⟨M, hm, hM2⟩ := abs_le_fin hhi
              obtain ⟨A, ha, hA2⟩ := abs_le_fin hva
              have hM1 : (Fl.kLo : Int) ≤ M.natAbs := by
                have hlo' : (Ieee.double.order (Fl.absB md) 2362753625475748981 == some .gt || Ieee.double.order (Fl.absB md) 2362753625475748981 == some .eq) = true := hlo
                rw [Fl.geq_fin (Fl.abs_fin hm) Fl.fin_lo] at hlo'
                exact of_decide_eq_true hlo'
              obtain ⟨d, q', bk, e, x, y, r1, r2, r3, r4, r5, r6, hle⟩ := Fl.float_law ha hm hM1 hM2 hA2
              obtain rfl := hq d q' r1 r2
              have hle' : (FloatKind.f64.format.order (Fl.absB e) y == some .lt || FloatKind.f64.format.order (Fl.absB e) y == some .eq) = true := hle
              clear hle hq hM1 hM2 hA2 ha hm
              have s1 : ∀ W, (binOp .sub 22 (.float .f64 vv) (.float .f64 md)).run Try.prog W = .ok (.float .f64 d) W := fun W => run_float_arith W .sub 22 .f64 vv md d r1
              have s2 : ∀ W, (binOp .mul 22 (.float .f64 q) (.float .f64 md)).run Try.prog W = .ok (.float .f64 bk) W := fun W => run_float_arith W .mul 22 .f64 q md bk r3
              have s3 : ∀ W, (binOp .sub 22 (.float .f64 bk) (.float .f64 d)).run Try.prog W = .ok (.float .f64 e) W := fun W => run_float_arith W .sub 22 .f64 bk d e r4
              have s4 : ∀ W, (binOp .mul 22 (.float .f64 (Fl.absB d)) (.float .f64 4377558780337573242)).run Try.prog W = .ok (.float .f64 x) W := fun W => run_float_arith W .mul 22 .f64 (Fl.absB d) 4377558780337573242 x r5
              have s5 : ∀ W, (binOp .add 22 (.float .f64 x) (.float .f64 2213095475689254516)).run Try.prog W = .ok (.float .f64 y) W := fun W => run_float_arith W .add 22 .f64 x 2213095475689254516 y r6
              clear r1 r2 r3 r4 r5 r6
              obtain ⟨c0, c1, c2⟩ := hM.at3
              go_wp2_with fail
              refine (value_any _ _ _ _).mono ?_
              rintro e w3 ⟨rfl, hb3⟩
              replace hM := hM.below hb3
              replace hB := hB.trans (hb3.mono hB.size)
              clear hb3 c0 c1 c2
              go_wp2_with fail
              refine (abs_any _ _).mono ?_
              rintro e w4 ⟨rfl, rfl⟩
              go_wp2_with fail
              refine (abs_any _ _).mono ?_
              rintro e w4 ⟨rfl, rfl⟩
              go_wp2
              go_ret
              exact ⟨rfl, hB⟩
  · go_enter Try.func3, Try.ntmps3
    go_wp2_with fail
    refine (bytes_no nm md vv hw true hh w hl).mono ?_
    rintro e w1 ⟨rfl, rfl⟩
    go_wp2
    go_ret
    exact ⟨rfl, Below.refl _ _⟩


set_option maxRecDepth 100000 in
set_option maxHeartbeats 4000000 in
theorem law_false (nm : ByteArray) (md vv hw : Nat) (hh : Bool) (w : World) :
    Calls Try.prog 3 #[.string nm, .float .f64 md, .float .f64 vv, .float .f64 hw, .bool false, .bool hh] w fun e w' => e = .returned (.bool true) ∧ Below w.heap.size w w' := by
  by_cases hl : nm.size ≤ 1048576
  · go_enter Try.func3, Try.ntmps3
    go_wp2_with fail
    refine (bytes_yes nm md vv hw false hh w hl).mono ?_
    rintro e w1 ⟨rfl, rfl⟩
    go_wp2_with fail
    refine (zzcompared_any nm md vv hw false hh w1 hl).mono ?_
    rintro e w2 ⟨g, q, rfl, h1, h2, h3, hB, hq⟩
    obtain ⟨df, hdf⟩ : ∃ df, df = (false && (FloatKind.f64.format.order md 0 != some .eq)) := ⟨_, rfl⟩
    have hM : MS w2 g nm md vv hw q false hh df := ⟨h2, by rw [hdf]; exact h3⟩
    have HD : Hid (df = (false && (FloatKind.f64.format.order md 0 != some .eq))) := hdf
    clear h1 h2 h3 hdf
    go_wp2
    go_loopw [14] (fun i wr => ∃ k : Nat, k ≤ 4 ∧ i = .int .i64 k ∧ MS wr g nm md vv hw q false hh df ∧ Below w1.heap.size w1 wr) (fun i _ => 4 - (intOf i).toNat)
    case atStart => exact ⟨0, by omega, rfl, hM, hB⟩
    case round =>
      clear hM hB
      obtain ⟨k, hk, rfl, hM, hB⟩ := hrel
      rcases (show k = 0 ∨ k = 1 ∨ k = 2 ∨ k = 3 ∨ k = 4 by omega) with rfl | rfl | rfl | rfl | rfl
      · obtain ⟨c0, c1, c2⟩ := hM.at0
        go_wp2_with fail
        refine (name_any _ _ _ _).mono ?_
        rintro e w3 ⟨rfl, hb3⟩
        replace hM := hM.below hb3
        replace hB := hB.trans (hb3.mono hB.size)
        clear hb3 c0 c1 c2
        go_wp2_with fail
        refine (suffix0 _).mono ?_
        rintro e w4 ⟨rfl, rfl⟩
        go_wp2
        go_roundw
        case rel => exact ⟨1, by omega, rfl, hM, hB⟩
        case measure => simp [intOf]
      · obtain ⟨c0, c1, c2⟩ := hM.at1
        go_wp2_with fail
        refine (name_any _ _ _ _).mono ?_
        rintro e w3 ⟨rfl, hb3⟩
        replace hM := hM.below hb3
        replace hB := hB.trans (hb3.mono hB.size)
        clear hb3 c0 c1 c2
        go_wp2_with fail
        refine (suffix1 _).mono ?_
        rintro e w4 ⟨rfl, rfl⟩
        go_wp2
        go_roundw
        case rel => exact ⟨2, by omega, rfl, hM, hB⟩
        case measure => simp [intOf]
      · obtain ⟨c0, c1, c2⟩ := hM.at2
        go_wp2_with fail
        refine (name_any _ _ _ _).mono ?_
        rintro e w3 ⟨rfl, hb3⟩
        replace hM := hM.below hb3
        replace hB := hB.trans (hb3.mono hB.size)
        clear hb3 c0 c1 c2
        go_wp2_with fail
        refine (suffix2 _).mono ?_
        rintro e w4 ⟨rfl, rfl⟩
        go_wp2
        go_roundw
        case rel => exact ⟨3, by omega, rfl, hM, hB⟩
        case measure => simp [intOf]
      · obtain ⟨c0, c1, c2⟩ := hM.at3
        go_wp2_with fail
        refine (name_any _ _ _ _).mono ?_
        rintro e w3 ⟨rfl, hb3⟩
        replace hM := hM.below hb3
        replace hB := hB.trans (hb3.mono hB.size)
        clear hb3 c0 c1 c2
        go_wp2_with fail
        refine (suffix3 _).mono ?_
        rintro e w4 ⟨rfl, rfl⟩
        go_wp2
        go_roundw
        case rel => exact ⟨4, by omega, rfl, hM, hB⟩
        case measure => simp [intOf]
      · clear hk
        obtain ⟨c0, c1, c2⟩ := hM.at0
        go_wp2_with fail
        refine (value_any _ _ _ _).mono ?_
        rintro e w3 ⟨rfl, hb3⟩
        replace hM := hM.below hb3
        replace hB := hB.trans (hb3.mono hB.size)
        clear hb3 c0 c1 c2
        go_wp2_with fail
        refine (same_any _ _).mono ?_
        rintro e w4 ⟨rfl, rfl⟩
        obtain ⟨c0, c1, c2⟩ := hM.at0
        go_wp2_with fail
        refine (defined_any _ _ _ _).mono ?_
        rintro e w3 ⟨rfl, hb3⟩
        replace hM := hM.below hb3
        replace hB := hB.trans (hb3.mono hB.size)
        clear hb3 c0 c1 c2
        obtain ⟨c0, c1, c2⟩ := hM.at1
        go_wp2_with fail
        refine (value_any _ _ _ _).mono ?_
        rintro e w3 ⟨rfl, hb3⟩
        replace hM := hM.below hb3
        replace hB := hB.trans (hb3.mono hB.size)
        clear hb3 c0 c1 c2
        go_wp2_with fail
        refine (same_any _ _).mono ?_
        rintro e w4 ⟨rfl, rfl⟩
        obtain ⟨c0, c1, c2⟩ := hM.at1
        go_wp2_with fail
        refine (defined_any _ _ _ _).mono ?_
        rintro e w3 ⟨rfl, hb3⟩
        replace hM := hM.below hb3
        replace hB := hB.trans (hb3.mono hB.size)
        clear hb3 c0 c1 c2
        obtain ⟨c0, c1, c2⟩ := hM.at2
        go_wp2_with fail
        refine (value_any _ _ _ _).mono ?_
        rintro e w3 ⟨rfl, hb3⟩
        replace hM := hM.below hb3
        replace hB := hB.trans (hb3.mono hB.size)
        clear hb3 c0 c1 c2
        go_wp2_with fail
        refine (same_any _ _).mono ?_
        rintro e w4 ⟨rfl, rfl⟩
        obtain ⟨c0, c1, c2⟩ := hM.at2
        go_wp2_with fail
        refine (defined_any _ _ _ _).mono ?_
        rintro e w3 ⟨rfl, hb3⟩
        replace hM := hM.below hb3
        replace hB := hB.trans (hb3.mono hB.size)
        clear hb3 c0 c1 c2
        obtain ⟨c0, c1, c2⟩ := hM.at3
        go_wp2_with fail
        refine (defined_any _ _ _ _).mono ?_
        rintro e w3 ⟨rfl, hb3⟩
        replace hM := hM.below hb3
        replace hB := hB.trans (hb3.mono hB.size)
        clear hb3 c0 c1 c2
        rw [HD.out]
        go_wp2_with fail
        refine (abs_any md _).mono ?_
        rintro e w4 ⟨rfl, rfl⟩
        go_wp2
        go_ret
        exact ⟨rfl, hB⟩
  · go_enter Try.func3, Try.ntmps3
    go_wp2_with fail
    refine (bytes_no nm md vv hw false hh w hl).mono ?_
    rintro e w1 ⟨rfl, rfl⟩
    go_wp2
    go_ret
    exact ⟨rfl, Below.refl _ _⟩


theorem law_any (nm : ByteArray) (md vv hw : Nat) (hv hh : Bool) (w : World) :
    Calls Try.prog 3 #[.string nm, .float .f64 md, .float .f64 vv, .float .f64 hw, .bool hv, .bool hh] w fun e w' => e = .returned (.bool true) ∧ Below w.heap.size w w' := by
  cases hv
  · exact law_false nm md vv hw hh w
  · exact law_true nm md vv hw hh w

end Go.Proofs.Qxb6604386a
