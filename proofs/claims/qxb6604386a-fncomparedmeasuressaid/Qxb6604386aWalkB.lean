/- compared (15): four measures in new memory. -/
import Derived.Test.Qxb6604386aWalkA
import Derived.Deep.RegionHeld
namespace Go.Proofs.Qxb6604386a
open Go.RowKit
set_option linter.unusedVariables false
set_option linter.unusedSimpArgs false
attribute [local go_sem] run_store_float

/-- The estimate's four cells, in block b. -/
def SH (b vv hw : Nat) (hv hh : Bool) (W : World) : Prop :=
  W.cell? ⟨b, 0, none⟩ = some (.float .f64 vv) ∧ W.cell? ⟨b, 1, none⟩ = some (.float .f64 hw) ∧ W.cell? ⟨b, 2, none⟩ = some (.bool hv) ∧ W.cell? ⟨b, 3, none⟩ = some (.bool hh) ∧ b + 1 ≤ W.heap.size
theorem SH.below {b vv hw : Nat} {hv hh : Bool} {W W' : World} (h : SH b vv hw hv hh W) (hb : Below W.heap.size W W') : SH b vv hw hv hh W' := by
  obtain ⟨c0, c1, c2, c3, hz⟩ := h
  exact ⟨(hb.cell (p := ⟨b, 0, none⟩) hz).trans c0, (hb.cell (p := ⟨b, 1, none⟩) hz).trans c1, (hb.cell (p := ⟨b, 2, none⟩) hz).trans c2, (hb.cell (p := ⟨b, 3, none⟩) hz).trans c3, Nat.le_trans hz hb.size⟩
theorem SH.drew {b vv hw : Nat} {hv hh : Bool} {W : World} (h : SH b vv hw hv hh W) : SH b vv hw hv hh W.drew := h

/-- The twelve cells of the four measures. -/
def measures (nm : ByteArray) (md vv hw q : Nat) (hv hh df : Bool) : Array Value :=
  #[.string (nm ++ { data := #[95, 97, 110, 97, 108, 121, 116, 105, 99] }), .float .f64 md, .bool true, .string (nm ++ { data := #[95, 115, 105, 109, 117, 108, 97, 116, 101, 100] }), .float .f64 vv, .bool hv, .string (nm ++ { data := #[95, 99, 105, 57, 57] }), .float .f64 hw, .bool hh, .string (nm ++ { data := #[95, 101, 114, 114, 111, 114] }), .float .f64 q, .bool df]
theorem SH.drewN {b vv hw : Nat} {hv hh : Bool} {W : World} (h : SH b vv hw hv hh W) (n : Nat) : SH b vv hw hv hh (W.drewN n) := h

theorem SH.redrew {b vv hw : Nat} {hv hh : Bool} {W : World} {n : Nat} (h : SH b vv hw hv hh (W.drewN n)) (m : Nat) : SH b vv hw hv hh (W.drewN m) := h

/-- What a float operation gives in a world, and how many draws it takes: a valid one none. -/
def fres (op : BinOp) (x y : Nat) (W : World) : Nat × Nat :=
  match floatBits op .f64 x y with
  | some d => (d, 0)
  | none => ((Question.nanBits .f64 x y).cut (W.tape W.drawn (.nanBits .f64 x y)), 1)
theorem fres_some {op : BinOp} {x y d : Nat} (W : World) (h : floatBits op .f64 x y = some d) : fres op x y W = (d, 0) := by unfold fres; rw [h]
theorem fres_none {op : BinOp} {x y : Nat} (W : World) (h : floatBits op .f64 x y = none) : fres op x y W = ((Question.nanBits .f64 x y).cut (W.tape W.drawn (.nanBits .f64 x y)), 1) := by unfold fres; rw [h]
theorem float_runs (op : BinOp) (hop : op = .sub ∨ op = .quo) (x y : Nat) (W : World) : (binOp op 22 (.float .f64 x) (.float .f64 y)).run Try.prog W = .ok (.float .f64 (fres op x y W).1) (W.drewN (fres op x y W).2) := by
  cases h : floatBits op .f64 x y with
  | some d => rw [fres_some W h]; exact run_float_arith W op 22 .f64 x y d h
  | none =>
    rw [fres_none W h]
    unfold floatBits at h
    rcases hop with rfl | rfl
    · simp only at h
      simp [binOp, Op.floatArith, h, Question.forced]
      rfl
    · simp only at h
      simp [binOp, Op.floatArith, h, Question.forced]
      rfl

/-- What 'compared' leaves. -/
def CPost (w : World) (nm : ByteArray) (md vv hw : Nat) (hv hh : Bool) (e : Ending) (w' : World) : Prop :=
  ∃ g q, e = .returned (.slice (some ⟨g, 0, none⟩) 4 4) ∧ w.heap.size ≤ g ∧ g < w'.heap.size ∧ (∀ j v, (measures nm md vv hw q hv hh (hv && (FloatKind.f64.format.order md 0 != some .eq)))[j]? = some v → w'.cell? ⟨g, j, none⟩ = some v) ∧ Below w.heap.size w w' ∧
    ∀ d q', Ieee.double.sub vv md = some d → Ieee.double.div d md = some q' → q = q'

theorem cpost_mk {w W : World} {nm : ByteArray} {md vv hw q g : Nat} {hv hh df : Bool} (hg : g = W.heap.size) (hB : Below w.heap.size w W) (hdf : df = (hv && (FloatKind.f64.format.order md 0 != some .eq)))
    (hq : ∀ d q', Ieee.double.sub vv md = some d → Ieee.double.div d md = some q' → q = q') :
    CPost w nm md vv hw hv hh (.returned (.slice (some ⟨g, 0, none⟩) 4 4)) (W.alloc (.cells #[.string (nm ++ { data := #[95, 97, 110, 97, 108, 121, 116, 105, 99] }), .float .f64 md, .bool true, .string (nm ++ { data := #[95, 115, 105, 109, 117, 108, 97, 116, 101, 100] }), .float .f64 vv, .bool hv, .string (nm ++ { data := #[95, 99, 105, 57, 57] }), .float .f64 hw, .bool hh, .string (nm ++ { data := #[95, 101, 114, 114, 111, 114] }), .float .f64 q, .bool df] 28)) := by
  subst hg hdf
  refine ⟨_, q, rfl, hB.size, by simp, fun j v hj => ?_, hB.alloc hB.size _, hq⟩
  rw [World.cell?_alloc_at _ _ _ _ rfl]; exact hj

set_option maxRecDepth 100000 in
set_option maxHeartbeats 4000000 in
theorem compared_true (nm : ByteArray) (md vv hw : Nat) (hh : Bool) (w : World) (hl : nm.size ≤ 1048576) :
    Calls Try.prog 15 #[.string nm, .float .f64 md, .agg #[.float .f64 vv, .float .f64 hw, .bool true, .bool hh]] w fun e w' => CPost w nm md vv hw true hh e w' := by
  have o1 := float_runs .sub (.inl rfl)
  have o2 := float_runs .quo (.inr rfl)
  go_enter Try.func15, Try.ntmps15
  go_wp2
  have hB : Below w.heap.size w ((w.alloc (.cells #[.float .f64 vv, .float .f64 hw, .bool true, .bool hh] 38)).alloc (.cells #[.float .f64 vv, .float .f64 hw, .bool true, .bool hh] 38)).drew := (((Below.refl _ _).alloc (Nat.le_refl _) _).alloc (by simp) _).drew
  refine wp_region_held_drew (S := SH (w.heap.size + 1) vv hw true hh) (by kernel_rfl) ?_ (fun hHeld => ?_)
  · refine ⟨?_, ?_, ?_, ?_, ?_⟩ <;> simp
  obtain ⟨w0, hw0⟩ : ∃ w0, w0 = ((w.alloc (.cells #[.float .f64 vv, .float .f64 hw, .bool true, .bool hh] 38)).alloc (.cells #[.float .f64 vv, .float .f64 hw, .bool true, .bool hh] 38)).drew := ⟨_, rfl⟩
  rw [← hw0] at hB hHeld ⊢
  clear hw0
  refine wpAnyH_take (i := 0) (v := .string nm) rfl (by kernel_rfl) (by kernel_rfl) (by kernel_rfl) (fun _ _ _ h => h) (Or.inl ⟨by rfl, fun W hW => ?_⟩) hHeld ?_
  · obtain ⟨c0, c1, c2, c3, hz⟩ := hW; clear hHeld; go_simp <;> omega
  try simp only [Act.put, List.setIfInBounds_toArray, List.set_cons_zero, List.set_cons_succ]
  refine wpAnyH_take (i := 1) (v := .float .f64 md) rfl (by kernel_rfl) (by kernel_rfl) (by kernel_rfl) (fun _ _ _ h => h) (Or.inl ⟨by rfl, fun W hW => ?_⟩) hHeld ?_
  · obtain ⟨c0, c1, c2, c3, hz⟩ := hW; clear hHeld; go_simp <;> omega
  try simp only [Act.put, List.setIfInBounds_toArray, List.set_cons_zero, List.set_cons_succ]
  refine wpAnyH_take (i := 3) (v := .string nm) rfl (by kernel_rfl) (by kernel_rfl) (by kernel_rfl) (fun _ _ _ h => h) (Or.inl ⟨by rfl, fun W hW => ?_⟩) hHeld ?_
  · obtain ⟨c0, c1, c2, c3, hz⟩ := hW; clear hHeld; go_simp <;> omega
  try simp only [Act.put, List.setIfInBounds_toArray, List.set_cons_zero, List.set_cons_succ]
  refine wpAnyH_take (i := 4) (v := .string (nm ++ { data := #[95, 115, 105, 109, 117, 108, 97, 116, 101, 100] })) rfl (by kernel_rfl) (by kernel_rfl) (by kernel_rfl) (fun _ _ _ h => h) (Or.inl ⟨by rfl, fun W hW => ?_⟩) hHeld ?_
  · obtain ⟨c0, c1, c2, c3, hz⟩ := hW; clear hHeld; go_simp <;> omega
  try simp only [Act.put, List.setIfInBounds_toArray, List.set_cons_zero, List.set_cons_succ]
  refine wpAnyH_take (i := 5) (v := .pointer (some ⟨w.heap.size + 1, 0, none⟩)) rfl (by kernel_rfl) (by kernel_rfl) (by kernel_rfl) (fun _ _ _ h => h) (Or.inl ⟨by rfl, fun W hW => ?_⟩) hHeld ?_
  · obtain ⟨c0, c1, c2, c3, hz⟩ := hW; clear hHeld; go_simp <;> omega
  try simp only [Act.put, List.setIfInBounds_toArray, List.set_cons_zero, List.set_cons_succ]
  refine wpAnyH_take (i := 6) (v := .float .f64 vv) rfl (by kernel_rfl) (by kernel_rfl) (by kernel_rfl) (fun _ _ _ h => h) (Or.inl ⟨by rfl, fun W hW => ?_⟩) hHeld ?_
  · obtain ⟨c0, c1, c2, c3, hz⟩ := hW; clear hHeld; go_simp <;> omega
  try simp only [Act.put, List.setIfInBounds_toArray, List.set_cons_zero, List.set_cons_succ]
  refine wpAnyH_take (i := 7) (v := .pointer (some ⟨w.heap.size + 1, 2, none⟩)) rfl (by kernel_rfl) (by kernel_rfl) (by kernel_rfl) (fun _ _ _ h => h) (Or.inl ⟨by rfl, fun W hW => ?_⟩) hHeld ?_
  · obtain ⟨c0, c1, c2, c3, hz⟩ := hW; clear hHeld; go_simp <;> omega
  try simp only [Act.put, List.setIfInBounds_toArray, List.set_cons_zero, List.set_cons_succ]
  refine wpAnyH_take (i := 8) (v := .bool true) rfl (by kernel_rfl) (by kernel_rfl) (by kernel_rfl) (fun _ _ _ h => h) (Or.inl ⟨by rfl, fun W hW => ?_⟩) hHeld ?_
  · obtain ⟨c0, c1, c2, c3, hz⟩ := hW; clear hHeld; go_simp <;> omega
  try simp only [Act.put, List.setIfInBounds_toArray, List.set_cons_zero, List.set_cons_succ]
  refine wpAnyH_take (i := 9) (v := .agg #[.string (nm ++ { data := #[95, 115, 105, 109, 117, 108, 97, 116, 101, 100] }), .float .f64 vv, .bool true]) rfl (by kernel_rfl) (by kernel_rfl) (by kernel_rfl) (fun _ _ _ h => h) (Or.inl ⟨by rfl, fun W hW => ?_⟩) hHeld ?_
  · obtain ⟨c0, c1, c2, c3, hz⟩ := hW; clear hHeld; go_simp <;> omega
  try simp only [Act.put, List.setIfInBounds_toArray, List.set_cons_zero, List.set_cons_succ]
  refine wpAnyH_take (i := 10) (v := .string nm) rfl (by kernel_rfl) (by kernel_rfl) (by kernel_rfl) (fun _ _ _ h => h) (Or.inl ⟨by rfl, fun W hW => ?_⟩) hHeld ?_
  · obtain ⟨c0, c1, c2, c3, hz⟩ := hW; clear hHeld; go_simp <;> omega
  try simp only [Act.put, List.setIfInBounds_toArray, List.set_cons_zero, List.set_cons_succ]
  refine wpAnyH_take (i := 11) (v := .string (nm ++ { data := #[95, 99, 105, 57, 57] })) rfl (by kernel_rfl) (by kernel_rfl) (by kernel_rfl) (fun _ _ _ h => h) (Or.inl ⟨by rfl, fun W hW => ?_⟩) hHeld ?_
  · obtain ⟨c0, c1, c2, c3, hz⟩ := hW; clear hHeld; go_simp <;> omega
  try simp only [Act.put, List.setIfInBounds_toArray, List.set_cons_zero, List.set_cons_succ]
  refine wpAnyH_take (i := 12) (v := .pointer (some ⟨w.heap.size + 1, 1, none⟩)) rfl (by kernel_rfl) (by kernel_rfl) (by kernel_rfl) (fun _ _ _ h => h) (Or.inl ⟨by rfl, fun W hW => ?_⟩) hHeld ?_
  · obtain ⟨c0, c1, c2, c3, hz⟩ := hW; clear hHeld; go_simp <;> omega
  try simp only [Act.put, List.setIfInBounds_toArray, List.set_cons_zero, List.set_cons_succ]
  refine wpAnyH_take (i := 13) (v := .float .f64 hw) rfl (by kernel_rfl) (by kernel_rfl) (by kernel_rfl) (fun _ _ _ h => h) (Or.inl ⟨by rfl, fun W hW => ?_⟩) hHeld ?_
  · obtain ⟨c0, c1, c2, c3, hz⟩ := hW; clear hHeld; go_simp <;> omega
  try simp only [Act.put, List.setIfInBounds_toArray, List.set_cons_zero, List.set_cons_succ]
  refine wpAnyH_take (i := 14) (v := .pointer (some ⟨w.heap.size + 1, 3, none⟩)) rfl (by kernel_rfl) (by kernel_rfl) (by kernel_rfl) (fun _ _ _ h => h) (Or.inl ⟨by rfl, fun W hW => ?_⟩) hHeld ?_
  · obtain ⟨c0, c1, c2, c3, hz⟩ := hW; clear hHeld; go_simp <;> omega
  try simp only [Act.put, List.setIfInBounds_toArray, List.set_cons_zero, List.set_cons_succ]
  refine wpAnyH_take (i := 15) (v := .bool hh) rfl (by kernel_rfl) (by kernel_rfl) (by kernel_rfl) (fun _ _ _ h => h) (Or.inl ⟨by rfl, fun W hW => ?_⟩) hHeld ?_
  · obtain ⟨c0, c1, c2, c3, hz⟩ := hW; clear hHeld; go_simp <;> omega
  try simp only [Act.put, List.setIfInBounds_toArray, List.set_cons_zero, List.set_cons_succ]
  refine wpAnyH_take (i := 16) (v := .agg #[.string (nm ++ { data := #[95, 99, 105, 57, 57] }), .float .f64 hw, .bool hh]) rfl (by kernel_rfl) (by kernel_rfl) (by kernel_rfl) (fun _ _ _ h => h) (Or.inl ⟨by rfl, fun W hW => ?_⟩) hHeld ?_
  · obtain ⟨c0, c1, c2, c3, hz⟩ := hW; clear hHeld; go_simp <;> omega
  try simp only [Act.put, List.setIfInBounds_toArray, List.set_cons_zero, List.set_cons_succ]
  refine wpAnyH_take (i := 17) (v := .string nm) rfl (by kernel_rfl) (by kernel_rfl) (by kernel_rfl) (fun _ _ _ h => h) (Or.inl ⟨by rfl, fun W hW => ?_⟩) hHeld ?_
  · obtain ⟨c0, c1, c2, c3, hz⟩ := hW; clear hHeld; go_simp <;> omega
  try simp only [Act.put, List.setIfInBounds_toArray, List.set_cons_zero, List.set_cons_succ]
  refine wpAnyH_take (i := 18) (v := .string (nm ++ { data := #[95, 101, 114, 114, 111, 114] })) rfl (by kernel_rfl) (by kernel_rfl) (by kernel_rfl) (fun _ _ _ h => h) (Or.inl ⟨by rfl, fun W hW => ?_⟩) hHeld ?_
  · obtain ⟨c0, c1, c2, c3, hz⟩ := hW; clear hHeld; go_simp <;> omega
  try simp only [Act.put, List.setIfInBounds_toArray, List.set_cons_zero, List.set_cons_succ]
  refine wpAnyH_take (i := 19) (v := .pointer (some ⟨w.heap.size + 1, 0, none⟩)) rfl (by kernel_rfl) (by kernel_rfl) (by kernel_rfl) (fun _ _ _ h => h) (Or.inl ⟨by rfl, fun W hW => ?_⟩) hHeld ?_
  · obtain ⟨c0, c1, c2, c3, hz⟩ := hW; clear hHeld; go_simp <;> omega
  try simp only [Act.put, List.setIfInBounds_toArray, List.set_cons_zero, List.set_cons_succ]
  refine wpAnyH_take (i := 20) (v := .float .f64 vv) rfl (by kernel_rfl) (by kernel_rfl) (by kernel_rfl) (fun _ _ _ h => h) (Or.inl ⟨by rfl, fun W hW => ?_⟩) hHeld ?_
  · obtain ⟨c0, c1, c2, c3, hz⟩ := hW; clear hHeld; go_simp <;> omega
  try simp only [Act.put, List.setIfInBounds_toArray, List.set_cons_zero, List.set_cons_succ]
  refine wpAnyH_take (i := 21) (v := .float .f64 md) rfl (by kernel_rfl) (by kernel_rfl) (by kernel_rfl) (fun _ _ _ h => h) (Or.inl ⟨by rfl, fun W hW => ?_⟩) hHeld ?_
  · obtain ⟨c0, c1, c2, c3, hz⟩ := hW; clear hHeld; go_simp <;> omega
  try simp only [Act.put, List.setIfInBounds_toArray, List.set_cons_zero, List.set_cons_succ]
  refine wpAnyH_take (i := 23) (v := .float .f64 md) rfl (by kernel_rfl) (by kernel_rfl) (by kernel_rfl) (fun _ _ _ h => h) (Or.inl ⟨by rfl, fun W hW => ?_⟩) hHeld ?_
  · obtain ⟨c0, c1, c2, c3, hz⟩ := hW; clear hHeld; go_simp <;> omega
  try simp only [Act.put, List.setIfInBounds_toArray, List.set_cons_zero, List.set_cons_succ]
  refine wpAnyH_take (i := 25) (v := .pointer (some ⟨w.heap.size + 1, 2, none⟩)) rfl (by kernel_rfl) (by kernel_rfl) (by kernel_rfl) (fun _ _ _ h => h) (Or.inl ⟨by rfl, fun W hW => ?_⟩) hHeld ?_
  · obtain ⟨c0, c1, c2, c3, hz⟩ := hW; clear hHeld; go_simp <;> omega
  try simp only [Act.put, List.setIfInBounds_toArray, List.set_cons_zero, List.set_cons_succ]
  refine wpAnyH_take (i := 26) (v := .bool true) rfl (by kernel_rfl) (by kernel_rfl) (by kernel_rfl) (fun _ _ _ h => h) (Or.inl ⟨by rfl, fun W hW => ?_⟩) hHeld ?_
  · obtain ⟨c0, c1, c2, c3, hz⟩ := hW; clear hHeld; go_simp <;> omega
  try simp only [Act.put, List.setIfInBounds_toArray, List.set_cons_zero, List.set_cons_succ]
  refine wpAnyH_ready (rs := [2, 22]) (by kernel_rfl) (by simp) ?_
  refine AllReadyH.cons rfl (fun K hK => ?_) (AllReadyH.cons rfl (fun K hK => ?_) AllReadyH.nil)
  · -- the call first
    go_simp
    refine (analytic_any nm md _ hl).mono ?_
    rintro e w3 ⟨rfl, hb3⟩
    refine hK.out _ _ (by exact hHeld.below hb3) (fun hHeld' => ?_)
    replace hB := hB.trans (hb3.mono hB.size)
    clear hK K hHeld hb3
    have hHeld := hHeld'
    clear hHeld'
    try simp only [Act.put, List.setIfInBounds_toArray, List.set_cons_zero, List.set_cons_succ]
    refine wpAnyH_take (i := 27) (v := .bool true) rfl (by kernel_rfl) (by kernel_rfl) (by kernel_rfl) (fun _ _ _ h => h) (Or.inl ⟨by rfl, fun W hW => ?_⟩) hHeld ?_
    · obtain ⟨c0, c1, c2, c3, hz⟩ := hW; clear hHeld; go_simp <;> omega
    try simp only [Act.put, List.setIfInBounds_toArray, List.set_cons_zero, List.set_cons_succ]
    refine wpAnyH_take (i := 28) (v := .float .f64 md) rfl (by kernel_rfl) (by kernel_rfl) (by kernel_rfl) (fun _ _ _ h => h) (Or.inl ⟨by kernel_rfl, fun W hW => ?_⟩) hHeld ?_
    · obtain ⟨c0, c1, c2, c3, hz⟩ := hW; clear hHeld; go_simp <;> omega
    try simp only [Act.put, List.setIfInBounds_toArray, List.set_cons_zero, List.set_cons_succ]
    refine wpAnyH_take (i := 29) (v := .bool (FloatKind.f64.format.order md 0 != some .eq)) rfl (by kernel_rfl) (by kernel_rfl) (by kernel_rfl) (fun _ _ _ h => h) (Or.inl ⟨by kernel_rfl, fun W hW => ?_⟩) hHeld ?_
    · obtain ⟨c0, c1, c2, c3, hz⟩ := hW; clear hHeld; go_simp <;> omega
    try simp only [Act.put, List.setIfInBounds_toArray, List.set_cons_zero, List.set_cons_succ]
    refine wpAnyH_take (i := 30) (v := .bool (FloatKind.f64.format.order md 0 != some .eq)) rfl (by kernel_rfl) (by kernel_rfl) (by kernel_rfl) (fun _ _ _ h => h) (Or.inl ⟨by rfl, fun W hW => ?_⟩) hHeld ?_
    · obtain ⟨c0, c1, c2, c3, hz⟩ := hW; clear hHeld; go_simp <;> omega
    try simp only [Act.put, List.setIfInBounds_toArray, List.set_cons_zero, List.set_cons_succ]
    refine wpAnyH_ready (rs := [22]) (by kernel_rfl) (by simp) ?_
    refine AllReadyH.cons rfl (fun K hK => ?_) AllReadyH.nil
    go_simp
    refine hK.out _ _ (by exact hHeld.drewN _) (fun hHeld' => ?_)
    clear hK K hHeld
    have hHeld := hHeld'
    clear hHeld'
    try simp only [Act.put, List.setIfInBounds_toArray, List.set_cons_zero, List.set_cons_succ]
    refine wpAnyH_ready (rs := [24]) (by kernel_rfl) (by simp) ?_
    refine AllReadyH.cons rfl (fun K hK => ?_) AllReadyH.nil
    go_simp
    refine hK.out _ _ (by exact SH.redrew hHeld _) (fun hHeld' => ?_)
    clear hK K hHeld
    have hHeld := hHeld'
    clear hHeld'
    try simp only [Act.put, List.setIfInBounds_toArray, List.set_cons_zero, List.set_cons_succ]
    refine wpAnyH_take (i := 31) (v := .agg #[.string (nm ++ { data := #[95, 101, 114, 114, 111, 114] }), .float .f64 ((fres .quo (fres .sub vv md w3).1 md (w3.drewN (fres .sub vv md w3).2)).1), .bool (FloatKind.f64.format.order md 0 != some .eq)]) rfl (by kernel_rfl) (by kernel_rfl) (by kernel_rfl) (fun _ _ _ h => h) (Or.inl ⟨by rfl, fun W hW => ?_⟩) hHeld ?_
    · obtain ⟨c0, c1, c2, c3, hz⟩ := hW; clear hHeld; go_simp <;> omega
    try simp only [Act.put, List.setIfInBounds_toArray, List.set_cons_zero, List.set_cons_succ]
    refine wpAnyH_ready (rs := [32]) (by kernel_rfl) (by simp) ?_
    refine AllReadyH.cons rfl (fun K hK => ?_) AllReadyH.nil
    go_simp
    refine hK.out _ _ (by exact hHeld.below ((Below.refl _ _).alloc (Nat.le_refl _) _)) (fun hHeld' => ?_)
    clear hK K hHeld
    have hHeld := hHeld'
    clear hHeld'
    try simp only [Act.put, List.setIfInBounds_toArray, List.set_cons_zero, List.set_cons_succ]
    refine wpAnyH_ready (rs := [33]) (by kernel_rfl) (by simp) ?_
    refine AllReadyH.cons rfl (fun K hK => ?_) AllReadyH.nil
    go_simp
    refine hK.out _ _ (by exact hHeld) (fun _ => ?_)
    clear hK K
    try simp only [Act.put, List.setIfInBounds_toArray, List.set_cons_zero, List.set_cons_succ]
    refine wpAnyH_done (by kernel_rfl) ?_ _
    go_wp2
    go_ret
    exact cpost_mk (nm := nm) (hw := hw) (hv := true) (hh := hh) (g := w3.heap.size) (q := (fres .quo (fres .sub vv md w3).1 md (w3.drewN (fres .sub vv md w3).2)).1) rfl (below_drewN hB _) rfl (fun d q' h1 h2 => by rw [fres_some w3 (show floatBits .sub .f64 vv md = some d from h1), fres_some _ (show floatBits .quo .f64 d md = some q' from h2)])
  · -- the difference first
    go_simp
    refine hK.out _ _ (by exact hHeld.drewN _) (fun hHeld' => ?_)
    clear hK K hHeld
    have hHeld := hHeld'
    clear hHeld'
    try simp only [Act.put, List.setIfInBounds_toArray, List.set_cons_zero, List.set_cons_succ]
    refine wpAnyH_ready (rs := [2, 24]) (by kernel_rfl) (by simp) ?_
    refine AllReadyH.cons rfl (fun K hK => ?_) (AllReadyH.cons rfl (fun K hK => ?_) AllReadyH.nil)
    · -- then the call
      go_simp
      refine (analytic_any nm md _ hl).mono ?_
      rintro e w3 ⟨rfl, hb3⟩
      refine hK.out _ _ (by exact hHeld.below hb3) (fun hHeld' => ?_)
      replace hB := (below_drewN hB _).trans (hb3.mono hB.size)
      clear hK K hHeld hb3
      have hHeld := hHeld'
      clear hHeld'
      try simp only [Act.put, List.setIfInBounds_toArray, List.set_cons_zero, List.set_cons_succ]
      refine wpAnyH_take (i := 27) (v := .bool true) rfl (by kernel_rfl) (by kernel_rfl) (by kernel_rfl) (fun _ _ _ h => h) (Or.inl ⟨by rfl, fun W hW => ?_⟩) hHeld ?_
      · obtain ⟨c0, c1, c2, c3, hz⟩ := hW; clear hHeld; go_simp <;> omega
      try simp only [Act.put, List.setIfInBounds_toArray, List.set_cons_zero, List.set_cons_succ]
      refine wpAnyH_take (i := 28) (v := .float .f64 md) rfl (by kernel_rfl) (by kernel_rfl) (by kernel_rfl) (fun _ _ _ h => h) (Or.inl ⟨by kernel_rfl, fun W hW => ?_⟩) hHeld ?_
      · obtain ⟨c0, c1, c2, c3, hz⟩ := hW; clear hHeld; go_simp <;> omega
      try simp only [Act.put, List.setIfInBounds_toArray, List.set_cons_zero, List.set_cons_succ]
      refine wpAnyH_take (i := 29) (v := .bool (FloatKind.f64.format.order md 0 != some .eq)) rfl (by kernel_rfl) (by kernel_rfl) (by kernel_rfl) (fun _ _ _ h => h) (Or.inl ⟨by kernel_rfl, fun W hW => ?_⟩) hHeld ?_
      · obtain ⟨c0, c1, c2, c3, hz⟩ := hW; clear hHeld; go_simp <;> omega
      try simp only [Act.put, List.setIfInBounds_toArray, List.set_cons_zero, List.set_cons_succ]
      refine wpAnyH_take (i := 30) (v := .bool (FloatKind.f64.format.order md 0 != some .eq)) rfl (by kernel_rfl) (by kernel_rfl) (by kernel_rfl) (fun _ _ _ h => h) (Or.inl ⟨by rfl, fun W hW => ?_⟩) hHeld ?_
      · obtain ⟨c0, c1, c2, c3, hz⟩ := hW; clear hHeld; go_simp <;> omega
      try simp only [Act.put, List.setIfInBounds_toArray, List.set_cons_zero, List.set_cons_succ]
      refine wpAnyH_ready (rs := [24]) (by kernel_rfl) (by simp) ?_
      refine AllReadyH.cons rfl (fun K hK => ?_) AllReadyH.nil
      go_simp
      refine hK.out _ _ (by exact hHeld.drewN _) (fun hHeld' => ?_)
      clear hK K hHeld
      have hHeld := hHeld'
      clear hHeld'
      try simp only [Act.put, List.setIfInBounds_toArray, List.set_cons_zero, List.set_cons_succ]
      refine wpAnyH_take (i := 31) (v := .agg #[.string (nm ++ { data := #[95, 101, 114, 114, 111, 114] }), .float .f64 ((fres .quo (fres .sub vv md w0).1 md w3).1), .bool (FloatKind.f64.format.order md 0 != some .eq)]) rfl (by kernel_rfl) (by kernel_rfl) (by kernel_rfl) (fun _ _ _ h => h) (Or.inl ⟨by rfl, fun W hW => ?_⟩) hHeld ?_
      · obtain ⟨c0, c1, c2, c3, hz⟩ := hW; clear hHeld; go_simp <;> omega
      try simp only [Act.put, List.setIfInBounds_toArray, List.set_cons_zero, List.set_cons_succ]
      refine wpAnyH_ready (rs := [32]) (by kernel_rfl) (by simp) ?_
      refine AllReadyH.cons rfl (fun K hK => ?_) AllReadyH.nil
      go_simp
      refine hK.out _ _ (by exact hHeld.below ((Below.refl _ _).alloc (Nat.le_refl _) _)) (fun hHeld' => ?_)
      clear hK K hHeld
      have hHeld := hHeld'
      clear hHeld'
      try simp only [Act.put, List.setIfInBounds_toArray, List.set_cons_zero, List.set_cons_succ]
      refine wpAnyH_ready (rs := [33]) (by kernel_rfl) (by simp) ?_
      refine AllReadyH.cons rfl (fun K hK => ?_) AllReadyH.nil
      go_simp
      refine hK.out _ _ (by exact hHeld) (fun _ => ?_)
      clear hK K
      try simp only [Act.put, List.setIfInBounds_toArray, List.set_cons_zero, List.set_cons_succ]
      refine wpAnyH_done (by kernel_rfl) ?_ _
      go_wp2
      go_ret
      exact cpost_mk (nm := nm) (hw := hw) (hv := true) (hh := hh) (g := w3.heap.size) (q := (fres .quo (fres .sub vv md w0).1 md w3).1) rfl (below_drewN hB _) rfl (fun d q' h1 h2 => by rw [fres_some w0 (show floatBits .sub .f64 vv md = some d from h1), fres_some _ (show floatBits .quo .f64 d md = some q' from h2)])
    · -- then the quotient
      go_simp
      refine hK.out _ _ (by exact SH.redrew hHeld _) (fun hHeld' => ?_)
      clear hK K hHeld
      have hHeld := hHeld'
      clear hHeld'
      try simp only [Act.put, List.setIfInBounds_toArray, List.set_cons_zero, List.set_cons_succ]
      refine wpAnyH_ready (rs := [2]) (by kernel_rfl) (by simp) ?_
      refine AllReadyH.cons rfl (fun K hK => ?_) AllReadyH.nil
      go_simp
      refine (analytic_any nm md _ hl).mono ?_
      rintro e w3 ⟨rfl, hb3⟩
      refine hK.out _ _ (by exact hHeld.below hb3) (fun hHeld' => ?_)
      replace hB := (below_drewN hB _).trans (hb3.mono hB.size)
      clear hK K hHeld hb3
      have hHeld := hHeld'
      clear hHeld'
      try simp only [Act.put, List.setIfInBounds_toArray, List.set_cons_zero, List.set_cons_succ]
      refine wpAnyH_take (i := 27) (v := .bool true) rfl (by kernel_rfl) (by kernel_rfl) (by kernel_rfl) (fun _ _ _ h => h) (Or.inl ⟨by rfl, fun W hW => ?_⟩) hHeld ?_
      · obtain ⟨c0, c1, c2, c3, hz⟩ := hW; clear hHeld; go_simp <;> omega
      try simp only [Act.put, List.setIfInBounds_toArray, List.set_cons_zero, List.set_cons_succ]
      refine wpAnyH_take (i := 28) (v := .float .f64 md) rfl (by kernel_rfl) (by kernel_rfl) (by kernel_rfl) (fun _ _ _ h => h) (Or.inl ⟨by kernel_rfl, fun W hW => ?_⟩) hHeld ?_
      · obtain ⟨c0, c1, c2, c3, hz⟩ := hW; clear hHeld; go_simp <;> omega
      try simp only [Act.put, List.setIfInBounds_toArray, List.set_cons_zero, List.set_cons_succ]
      refine wpAnyH_take (i := 29) (v := .bool (FloatKind.f64.format.order md 0 != some .eq)) rfl (by kernel_rfl) (by kernel_rfl) (by kernel_rfl) (fun _ _ _ h => h) (Or.inl ⟨by kernel_rfl, fun W hW => ?_⟩) hHeld ?_
      · obtain ⟨c0, c1, c2, c3, hz⟩ := hW; clear hHeld; go_simp <;> omega
      try simp only [Act.put, List.setIfInBounds_toArray, List.set_cons_zero, List.set_cons_succ]
      refine wpAnyH_take (i := 30) (v := .bool (FloatKind.f64.format.order md 0 != some .eq)) rfl (by kernel_rfl) (by kernel_rfl) (by kernel_rfl) (fun _ _ _ h => h) (Or.inl ⟨by rfl, fun W hW => ?_⟩) hHeld ?_
      · obtain ⟨c0, c1, c2, c3, hz⟩ := hW; clear hHeld; go_simp <;> omega
      try simp only [Act.put, List.setIfInBounds_toArray, List.set_cons_zero, List.set_cons_succ]
      refine wpAnyH_take (i := 31) (v := .agg #[.string (nm ++ { data := #[95, 101, 114, 114, 111, 114] }), .float .f64 ((fres .quo (fres .sub vv md w0).1 md (w0.drewN (fres .sub vv md w0).2)).1), .bool (FloatKind.f64.format.order md 0 != some .eq)]) rfl (by kernel_rfl) (by kernel_rfl) (by kernel_rfl) (fun _ _ _ h => h) (Or.inl ⟨by rfl, fun W hW => ?_⟩) hHeld ?_
      · obtain ⟨c0, c1, c2, c3, hz⟩ := hW; clear hHeld; go_simp <;> omega
      try simp only [Act.put, List.setIfInBounds_toArray, List.set_cons_zero, List.set_cons_succ]
      refine wpAnyH_ready (rs := [32]) (by kernel_rfl) (by simp) ?_
      refine AllReadyH.cons rfl (fun K hK => ?_) AllReadyH.nil
      go_simp
      refine hK.out _ _ (by exact hHeld.below ((Below.refl _ _).alloc (Nat.le_refl _) _)) (fun hHeld' => ?_)
      clear hK K hHeld
      have hHeld := hHeld'
      clear hHeld'
      try simp only [Act.put, List.setIfInBounds_toArray, List.set_cons_zero, List.set_cons_succ]
      refine wpAnyH_ready (rs := [33]) (by kernel_rfl) (by simp) ?_
      refine AllReadyH.cons rfl (fun K hK => ?_) AllReadyH.nil
      go_simp
      refine hK.out _ _ (by exact hHeld) (fun _ => ?_)
      clear hK K
      try simp only [Act.put, List.setIfInBounds_toArray, List.set_cons_zero, List.set_cons_succ]
      refine wpAnyH_done (by kernel_rfl) ?_ _
      go_wp2
      go_ret
      exact cpost_mk (nm := nm) (hw := hw) (hv := true) (hh := hh) (g := w3.heap.size) (q := (fres .quo (fres .sub vv md w0).1 md (w0.drewN (fres .sub vv md w0).2)).1) rfl (hB) rfl (fun d q' h1 h2 => by rw [fres_some w0 (show floatBits .sub .f64 vv md = some d from h1), fres_some _ (show floatBits .quo .f64 d md = some q' from h2)])

set_option maxRecDepth 100000 in
set_option maxHeartbeats 4000000 in
theorem compared_false (nm : ByteArray) (md vv hw : Nat) (hh : Bool) (w : World) (hl : nm.size ≤ 1048576) :
    Calls Try.prog 15 #[.string nm, .float .f64 md, .agg #[.float .f64 vv, .float .f64 hw, .bool false, .bool hh]] w fun e w' => CPost w nm md vv hw false hh e w' := by
  have o1 := float_runs .sub (.inl rfl)
  have o2 := float_runs .quo (.inr rfl)
  go_enter Try.func15, Try.ntmps15
  go_wp2
  have hB : Below w.heap.size w ((w.alloc (.cells #[.float .f64 vv, .float .f64 hw, .bool false, .bool hh] 38)).alloc (.cells #[.float .f64 vv, .float .f64 hw, .bool false, .bool hh] 38)).drew := (((Below.refl _ _).alloc (Nat.le_refl _) _).alloc (by simp) _).drew
  refine wp_region_held_drew (S := SH (w.heap.size + 1) vv hw false hh) (by kernel_rfl) ?_ (fun hHeld => ?_)
  · refine ⟨?_, ?_, ?_, ?_, ?_⟩ <;> simp
  obtain ⟨w0, hw0⟩ : ∃ w0, w0 = ((w.alloc (.cells #[.float .f64 vv, .float .f64 hw, .bool false, .bool hh] 38)).alloc (.cells #[.float .f64 vv, .float .f64 hw, .bool false, .bool hh] 38)).drew := ⟨_, rfl⟩
  rw [← hw0] at hB hHeld ⊢
  clear hw0
  refine wpAnyH_take (i := 0) (v := .string nm) rfl (by kernel_rfl) (by kernel_rfl) (by kernel_rfl) (fun _ _ _ h => h) (Or.inl ⟨by rfl, fun W hW => ?_⟩) hHeld ?_
  · obtain ⟨c0, c1, c2, c3, hz⟩ := hW; clear hHeld; go_simp <;> omega
  try simp only [Act.put, List.setIfInBounds_toArray, List.set_cons_zero, List.set_cons_succ]
  refine wpAnyH_take (i := 1) (v := .float .f64 md) rfl (by kernel_rfl) (by kernel_rfl) (by kernel_rfl) (fun _ _ _ h => h) (Or.inl ⟨by rfl, fun W hW => ?_⟩) hHeld ?_
  · obtain ⟨c0, c1, c2, c3, hz⟩ := hW; clear hHeld; go_simp <;> omega
  try simp only [Act.put, List.setIfInBounds_toArray, List.set_cons_zero, List.set_cons_succ]
  refine wpAnyH_take (i := 3) (v := .string nm) rfl (by kernel_rfl) (by kernel_rfl) (by kernel_rfl) (fun _ _ _ h => h) (Or.inl ⟨by rfl, fun W hW => ?_⟩) hHeld ?_
  · obtain ⟨c0, c1, c2, c3, hz⟩ := hW; clear hHeld; go_simp <;> omega
  try simp only [Act.put, List.setIfInBounds_toArray, List.set_cons_zero, List.set_cons_succ]
  refine wpAnyH_take (i := 4) (v := .string (nm ++ { data := #[95, 115, 105, 109, 117, 108, 97, 116, 101, 100] })) rfl (by kernel_rfl) (by kernel_rfl) (by kernel_rfl) (fun _ _ _ h => h) (Or.inl ⟨by rfl, fun W hW => ?_⟩) hHeld ?_
  · obtain ⟨c0, c1, c2, c3, hz⟩ := hW; clear hHeld; go_simp <;> omega
  try simp only [Act.put, List.setIfInBounds_toArray, List.set_cons_zero, List.set_cons_succ]
  refine wpAnyH_take (i := 5) (v := .pointer (some ⟨w.heap.size + 1, 0, none⟩)) rfl (by kernel_rfl) (by kernel_rfl) (by kernel_rfl) (fun _ _ _ h => h) (Or.inl ⟨by rfl, fun W hW => ?_⟩) hHeld ?_
  · obtain ⟨c0, c1, c2, c3, hz⟩ := hW; clear hHeld; go_simp <;> omega
  try simp only [Act.put, List.setIfInBounds_toArray, List.set_cons_zero, List.set_cons_succ]
  refine wpAnyH_take (i := 6) (v := .float .f64 vv) rfl (by kernel_rfl) (by kernel_rfl) (by kernel_rfl) (fun _ _ _ h => h) (Or.inl ⟨by rfl, fun W hW => ?_⟩) hHeld ?_
  · obtain ⟨c0, c1, c2, c3, hz⟩ := hW; clear hHeld; go_simp <;> omega
  try simp only [Act.put, List.setIfInBounds_toArray, List.set_cons_zero, List.set_cons_succ]
  refine wpAnyH_take (i := 7) (v := .pointer (some ⟨w.heap.size + 1, 2, none⟩)) rfl (by kernel_rfl) (by kernel_rfl) (by kernel_rfl) (fun _ _ _ h => h) (Or.inl ⟨by rfl, fun W hW => ?_⟩) hHeld ?_
  · obtain ⟨c0, c1, c2, c3, hz⟩ := hW; clear hHeld; go_simp <;> omega
  try simp only [Act.put, List.setIfInBounds_toArray, List.set_cons_zero, List.set_cons_succ]
  refine wpAnyH_take (i := 8) (v := .bool false) rfl (by kernel_rfl) (by kernel_rfl) (by kernel_rfl) (fun _ _ _ h => h) (Or.inl ⟨by rfl, fun W hW => ?_⟩) hHeld ?_
  · obtain ⟨c0, c1, c2, c3, hz⟩ := hW; clear hHeld; go_simp <;> omega
  try simp only [Act.put, List.setIfInBounds_toArray, List.set_cons_zero, List.set_cons_succ]
  refine wpAnyH_take (i := 9) (v := .agg #[.string (nm ++ { data := #[95, 115, 105, 109, 117, 108, 97, 116, 101, 100] }), .float .f64 vv, .bool false]) rfl (by kernel_rfl) (by kernel_rfl) (by kernel_rfl) (fun _ _ _ h => h) (Or.inl ⟨by rfl, fun W hW => ?_⟩) hHeld ?_
  · obtain ⟨c0, c1, c2, c3, hz⟩ := hW; clear hHeld; go_simp <;> omega
  try simp only [Act.put, List.setIfInBounds_toArray, List.set_cons_zero, List.set_cons_succ]
  refine wpAnyH_take (i := 10) (v := .string nm) rfl (by kernel_rfl) (by kernel_rfl) (by kernel_rfl) (fun _ _ _ h => h) (Or.inl ⟨by rfl, fun W hW => ?_⟩) hHeld ?_
  · obtain ⟨c0, c1, c2, c3, hz⟩ := hW; clear hHeld; go_simp <;> omega
  try simp only [Act.put, List.setIfInBounds_toArray, List.set_cons_zero, List.set_cons_succ]
  refine wpAnyH_take (i := 11) (v := .string (nm ++ { data := #[95, 99, 105, 57, 57] })) rfl (by kernel_rfl) (by kernel_rfl) (by kernel_rfl) (fun _ _ _ h => h) (Or.inl ⟨by rfl, fun W hW => ?_⟩) hHeld ?_
  · obtain ⟨c0, c1, c2, c3, hz⟩ := hW; clear hHeld; go_simp <;> omega
  try simp only [Act.put, List.setIfInBounds_toArray, List.set_cons_zero, List.set_cons_succ]
  refine wpAnyH_take (i := 12) (v := .pointer (some ⟨w.heap.size + 1, 1, none⟩)) rfl (by kernel_rfl) (by kernel_rfl) (by kernel_rfl) (fun _ _ _ h => h) (Or.inl ⟨by rfl, fun W hW => ?_⟩) hHeld ?_
  · obtain ⟨c0, c1, c2, c3, hz⟩ := hW; clear hHeld; go_simp <;> omega
  try simp only [Act.put, List.setIfInBounds_toArray, List.set_cons_zero, List.set_cons_succ]
  refine wpAnyH_take (i := 13) (v := .float .f64 hw) rfl (by kernel_rfl) (by kernel_rfl) (by kernel_rfl) (fun _ _ _ h => h) (Or.inl ⟨by rfl, fun W hW => ?_⟩) hHeld ?_
  · obtain ⟨c0, c1, c2, c3, hz⟩ := hW; clear hHeld; go_simp <;> omega
  try simp only [Act.put, List.setIfInBounds_toArray, List.set_cons_zero, List.set_cons_succ]
  refine wpAnyH_take (i := 14) (v := .pointer (some ⟨w.heap.size + 1, 3, none⟩)) rfl (by kernel_rfl) (by kernel_rfl) (by kernel_rfl) (fun _ _ _ h => h) (Or.inl ⟨by rfl, fun W hW => ?_⟩) hHeld ?_
  · obtain ⟨c0, c1, c2, c3, hz⟩ := hW; clear hHeld; go_simp <;> omega
  try simp only [Act.put, List.setIfInBounds_toArray, List.set_cons_zero, List.set_cons_succ]
  refine wpAnyH_take (i := 15) (v := .bool hh) rfl (by kernel_rfl) (by kernel_rfl) (by kernel_rfl) (fun _ _ _ h => h) (Or.inl ⟨by rfl, fun W hW => ?_⟩) hHeld ?_
  · obtain ⟨c0, c1, c2, c3, hz⟩ := hW; clear hHeld; go_simp <;> omega
  try simp only [Act.put, List.setIfInBounds_toArray, List.set_cons_zero, List.set_cons_succ]
  refine wpAnyH_take (i := 16) (v := .agg #[.string (nm ++ { data := #[95, 99, 105, 57, 57] }), .float .f64 hw, .bool hh]) rfl (by kernel_rfl) (by kernel_rfl) (by kernel_rfl) (fun _ _ _ h => h) (Or.inl ⟨by rfl, fun W hW => ?_⟩) hHeld ?_
  · obtain ⟨c0, c1, c2, c3, hz⟩ := hW; clear hHeld; go_simp <;> omega
  try simp only [Act.put, List.setIfInBounds_toArray, List.set_cons_zero, List.set_cons_succ]
  refine wpAnyH_take (i := 17) (v := .string nm) rfl (by kernel_rfl) (by kernel_rfl) (by kernel_rfl) (fun _ _ _ h => h) (Or.inl ⟨by rfl, fun W hW => ?_⟩) hHeld ?_
  · obtain ⟨c0, c1, c2, c3, hz⟩ := hW; clear hHeld; go_simp <;> omega
  try simp only [Act.put, List.setIfInBounds_toArray, List.set_cons_zero, List.set_cons_succ]
  refine wpAnyH_take (i := 18) (v := .string (nm ++ { data := #[95, 101, 114, 114, 111, 114] })) rfl (by kernel_rfl) (by kernel_rfl) (by kernel_rfl) (fun _ _ _ h => h) (Or.inl ⟨by rfl, fun W hW => ?_⟩) hHeld ?_
  · obtain ⟨c0, c1, c2, c3, hz⟩ := hW; clear hHeld; go_simp <;> omega
  try simp only [Act.put, List.setIfInBounds_toArray, List.set_cons_zero, List.set_cons_succ]
  refine wpAnyH_take (i := 19) (v := .pointer (some ⟨w.heap.size + 1, 0, none⟩)) rfl (by kernel_rfl) (by kernel_rfl) (by kernel_rfl) (fun _ _ _ h => h) (Or.inl ⟨by rfl, fun W hW => ?_⟩) hHeld ?_
  · obtain ⟨c0, c1, c2, c3, hz⟩ := hW; clear hHeld; go_simp <;> omega
  try simp only [Act.put, List.setIfInBounds_toArray, List.set_cons_zero, List.set_cons_succ]
  refine wpAnyH_take (i := 20) (v := .float .f64 vv) rfl (by kernel_rfl) (by kernel_rfl) (by kernel_rfl) (fun _ _ _ h => h) (Or.inl ⟨by rfl, fun W hW => ?_⟩) hHeld ?_
  · obtain ⟨c0, c1, c2, c3, hz⟩ := hW; clear hHeld; go_simp <;> omega
  try simp only [Act.put, List.setIfInBounds_toArray, List.set_cons_zero, List.set_cons_succ]
  refine wpAnyH_take (i := 21) (v := .float .f64 md) rfl (by kernel_rfl) (by kernel_rfl) (by kernel_rfl) (fun _ _ _ h => h) (Or.inl ⟨by rfl, fun W hW => ?_⟩) hHeld ?_
  · obtain ⟨c0, c1, c2, c3, hz⟩ := hW; clear hHeld; go_simp <;> omega
  try simp only [Act.put, List.setIfInBounds_toArray, List.set_cons_zero, List.set_cons_succ]
  refine wpAnyH_take (i := 23) (v := .float .f64 md) rfl (by kernel_rfl) (by kernel_rfl) (by kernel_rfl) (fun _ _ _ h => h) (Or.inl ⟨by rfl, fun W hW => ?_⟩) hHeld ?_
  · obtain ⟨c0, c1, c2, c3, hz⟩ := hW; clear hHeld; go_simp <;> omega
  try simp only [Act.put, List.setIfInBounds_toArray, List.set_cons_zero, List.set_cons_succ]
  refine wpAnyH_take (i := 25) (v := .pointer (some ⟨w.heap.size + 1, 2, none⟩)) rfl (by kernel_rfl) (by kernel_rfl) (by kernel_rfl) (fun _ _ _ h => h) (Or.inl ⟨by rfl, fun W hW => ?_⟩) hHeld ?_
  · obtain ⟨c0, c1, c2, c3, hz⟩ := hW; clear hHeld; go_simp <;> omega
  try simp only [Act.put, List.setIfInBounds_toArray, List.set_cons_zero, List.set_cons_succ]
  refine wpAnyH_take (i := 26) (v := .bool false) rfl (by kernel_rfl) (by kernel_rfl) (by kernel_rfl) (fun _ _ _ h => h) (Or.inl ⟨by rfl, fun W hW => ?_⟩) hHeld ?_
  · obtain ⟨c0, c1, c2, c3, hz⟩ := hW; clear hHeld; go_simp <;> omega
  try simp only [Act.put, List.setIfInBounds_toArray, List.set_cons_zero, List.set_cons_succ]
  refine wpAnyH_ready (rs := [2, 22]) (by kernel_rfl) (by simp) ?_
  refine AllReadyH.cons rfl (fun K hK => ?_) (AllReadyH.cons rfl (fun K hK => ?_) AllReadyH.nil)
  · -- the call first
    go_simp
    refine (analytic_any nm md _ hl).mono ?_
    rintro e w3 ⟨rfl, hb3⟩
    refine hK.out _ _ (by exact hHeld.below hb3) (fun hHeld' => ?_)
    replace hB := hB.trans (hb3.mono hB.size)
    clear hK K hHeld hb3
    have hHeld := hHeld'
    clear hHeld'
    try simp only [Act.put, List.setIfInBounds_toArray, List.set_cons_zero, List.set_cons_succ]
    refine wpAnyH_take (i := 27) (v := .bool false) rfl (by kernel_rfl) (by kernel_rfl) (by kernel_rfl) (fun _ _ _ h => h) (Or.inl ⟨by rfl, fun W hW => ?_⟩) hHeld ?_
    · obtain ⟨c0, c1, c2, c3, hz⟩ := hW; clear hHeld; go_simp <;> omega
    try simp only [Act.put, List.setIfInBounds_toArray, List.set_cons_zero, List.set_cons_succ]
    refine wpAnyH_take (i := 28) (v := undef) rfl (by kernel_rfl) (by kernel_rfl) (by kernel_rfl) (fun _ _ _ h => h) (Or.inr ⟨by kernel_rfl, rfl⟩) hHeld ?_
    try simp only [Act.put, List.setIfInBounds_toArray, List.set_cons_zero, List.set_cons_succ]
    refine wpAnyH_take (i := 29) (v := undef) rfl (by kernel_rfl) (by kernel_rfl) (by kernel_rfl) (fun _ _ _ h => h) (Or.inr ⟨by kernel_rfl, rfl⟩) hHeld ?_
    try simp only [Act.put, List.setIfInBounds_toArray, List.set_cons_zero, List.set_cons_succ]
    refine wpAnyH_take (i := 30) (v := .bool false) rfl (by kernel_rfl) (by kernel_rfl) (by kernel_rfl) (fun _ _ _ h => h) (Or.inl ⟨by rfl, fun W hW => ?_⟩) hHeld ?_
    · obtain ⟨c0, c1, c2, c3, hz⟩ := hW; clear hHeld; go_simp <;> omega
    try simp only [Act.put, List.setIfInBounds_toArray, List.set_cons_zero, List.set_cons_succ]
    refine wpAnyH_ready (rs := [22]) (by kernel_rfl) (by simp) ?_
    refine AllReadyH.cons rfl (fun K hK => ?_) AllReadyH.nil
    go_simp
    refine hK.out _ _ (by exact hHeld.drewN _) (fun hHeld' => ?_)
    clear hK K hHeld
    have hHeld := hHeld'
    clear hHeld'
    try simp only [Act.put, List.setIfInBounds_toArray, List.set_cons_zero, List.set_cons_succ]
    refine wpAnyH_ready (rs := [24]) (by kernel_rfl) (by simp) ?_
    refine AllReadyH.cons rfl (fun K hK => ?_) AllReadyH.nil
    go_simp
    refine hK.out _ _ (by exact SH.redrew hHeld _) (fun hHeld' => ?_)
    clear hK K hHeld
    have hHeld := hHeld'
    clear hHeld'
    try simp only [Act.put, List.setIfInBounds_toArray, List.set_cons_zero, List.set_cons_succ]
    refine wpAnyH_take (i := 31) (v := .agg #[.string (nm ++ { data := #[95, 101, 114, 114, 111, 114] }), .float .f64 ((fres .quo (fres .sub vv md w3).1 md (w3.drewN (fres .sub vv md w3).2)).1), .bool false]) rfl (by kernel_rfl) (by kernel_rfl) (by kernel_rfl) (fun _ _ _ h => h) (Or.inl ⟨by rfl, fun W hW => ?_⟩) hHeld ?_
    · obtain ⟨c0, c1, c2, c3, hz⟩ := hW; clear hHeld; go_simp <;> omega
    try simp only [Act.put, List.setIfInBounds_toArray, List.set_cons_zero, List.set_cons_succ]
    refine wpAnyH_ready (rs := [32]) (by kernel_rfl) (by simp) ?_
    refine AllReadyH.cons rfl (fun K hK => ?_) AllReadyH.nil
    go_simp
    refine hK.out _ _ (by exact hHeld.below ((Below.refl _ _).alloc (Nat.le_refl _) _)) (fun hHeld' => ?_)
    clear hK K hHeld
    have hHeld := hHeld'
    clear hHeld'
    try simp only [Act.put, List.setIfInBounds_toArray, List.set_cons_zero, List.set_cons_succ]
    refine wpAnyH_ready (rs := [33]) (by kernel_rfl) (by simp) ?_
    refine AllReadyH.cons rfl (fun K hK => ?_) AllReadyH.nil
    go_simp
    refine hK.out _ _ (by exact hHeld) (fun _ => ?_)
    clear hK K
    try simp only [Act.put, List.setIfInBounds_toArray, List.set_cons_zero, List.set_cons_succ]
    refine wpAnyH_done (by kernel_rfl) ?_ _
    go_wp2
    go_ret
    exact cpost_mk (nm := nm) (hw := hw) (hv := false) (hh := hh) (g := w3.heap.size) (q := (fres .quo (fres .sub vv md w3).1 md (w3.drewN (fres .sub vv md w3).2)).1) rfl (below_drewN hB _) rfl (fun d q' h1 h2 => by rw [fres_some w3 (show floatBits .sub .f64 vv md = some d from h1), fres_some _ (show floatBits .quo .f64 d md = some q' from h2)])
  · -- the difference first
    go_simp
    refine hK.out _ _ (by exact hHeld.drewN _) (fun hHeld' => ?_)
    clear hK K hHeld
    have hHeld := hHeld'
    clear hHeld'
    try simp only [Act.put, List.setIfInBounds_toArray, List.set_cons_zero, List.set_cons_succ]
    refine wpAnyH_ready (rs := [2, 24]) (by kernel_rfl) (by simp) ?_
    refine AllReadyH.cons rfl (fun K hK => ?_) (AllReadyH.cons rfl (fun K hK => ?_) AllReadyH.nil)
    · -- then the call
      go_simp
      refine (analytic_any nm md _ hl).mono ?_
      rintro e w3 ⟨rfl, hb3⟩
      refine hK.out _ _ (by exact hHeld.below hb3) (fun hHeld' => ?_)
      replace hB := (below_drewN hB _).trans (hb3.mono hB.size)
      clear hK K hHeld hb3
      have hHeld := hHeld'
      clear hHeld'
      try simp only [Act.put, List.setIfInBounds_toArray, List.set_cons_zero, List.set_cons_succ]
      refine wpAnyH_take (i := 27) (v := .bool false) rfl (by kernel_rfl) (by kernel_rfl) (by kernel_rfl) (fun _ _ _ h => h) (Or.inl ⟨by rfl, fun W hW => ?_⟩) hHeld ?_
      · obtain ⟨c0, c1, c2, c3, hz⟩ := hW; clear hHeld; go_simp <;> omega
      try simp only [Act.put, List.setIfInBounds_toArray, List.set_cons_zero, List.set_cons_succ]
      refine wpAnyH_take (i := 28) (v := undef) rfl (by kernel_rfl) (by kernel_rfl) (by kernel_rfl) (fun _ _ _ h => h) (Or.inr ⟨by kernel_rfl, rfl⟩) hHeld ?_
      try simp only [Act.put, List.setIfInBounds_toArray, List.set_cons_zero, List.set_cons_succ]
      refine wpAnyH_take (i := 29) (v := undef) rfl (by kernel_rfl) (by kernel_rfl) (by kernel_rfl) (fun _ _ _ h => h) (Or.inr ⟨by kernel_rfl, rfl⟩) hHeld ?_
      try simp only [Act.put, List.setIfInBounds_toArray, List.set_cons_zero, List.set_cons_succ]
      refine wpAnyH_take (i := 30) (v := .bool false) rfl (by kernel_rfl) (by kernel_rfl) (by kernel_rfl) (fun _ _ _ h => h) (Or.inl ⟨by rfl, fun W hW => ?_⟩) hHeld ?_
      · obtain ⟨c0, c1, c2, c3, hz⟩ := hW; clear hHeld; go_simp <;> omega
      try simp only [Act.put, List.setIfInBounds_toArray, List.set_cons_zero, List.set_cons_succ]
      refine wpAnyH_ready (rs := [24]) (by kernel_rfl) (by simp) ?_
      refine AllReadyH.cons rfl (fun K hK => ?_) AllReadyH.nil
      go_simp
      refine hK.out _ _ (by exact hHeld.drewN _) (fun hHeld' => ?_)
      clear hK K hHeld
      have hHeld := hHeld'
      clear hHeld'
      try simp only [Act.put, List.setIfInBounds_toArray, List.set_cons_zero, List.set_cons_succ]
      refine wpAnyH_take (i := 31) (v := .agg #[.string (nm ++ { data := #[95, 101, 114, 114, 111, 114] }), .float .f64 ((fres .quo (fres .sub vv md w0).1 md w3).1), .bool false]) rfl (by kernel_rfl) (by kernel_rfl) (by kernel_rfl) (fun _ _ _ h => h) (Or.inl ⟨by rfl, fun W hW => ?_⟩) hHeld ?_
      · obtain ⟨c0, c1, c2, c3, hz⟩ := hW; clear hHeld; go_simp <;> omega
      try simp only [Act.put, List.setIfInBounds_toArray, List.set_cons_zero, List.set_cons_succ]
      refine wpAnyH_ready (rs := [32]) (by kernel_rfl) (by simp) ?_
      refine AllReadyH.cons rfl (fun K hK => ?_) AllReadyH.nil
      go_simp
      refine hK.out _ _ (by exact hHeld.below ((Below.refl _ _).alloc (Nat.le_refl _) _)) (fun hHeld' => ?_)
      clear hK K hHeld
      have hHeld := hHeld'
      clear hHeld'
      try simp only [Act.put, List.setIfInBounds_toArray, List.set_cons_zero, List.set_cons_succ]
      refine wpAnyH_ready (rs := [33]) (by kernel_rfl) (by simp) ?_
      refine AllReadyH.cons rfl (fun K hK => ?_) AllReadyH.nil
      go_simp
      refine hK.out _ _ (by exact hHeld) (fun _ => ?_)
      clear hK K
      try simp only [Act.put, List.setIfInBounds_toArray, List.set_cons_zero, List.set_cons_succ]
      refine wpAnyH_done (by kernel_rfl) ?_ _
      go_wp2
      go_ret
      exact cpost_mk (nm := nm) (hw := hw) (hv := false) (hh := hh) (g := w3.heap.size) (q := (fres .quo (fres .sub vv md w0).1 md w3).1) rfl (below_drewN hB _) rfl (fun d q' h1 h2 => by rw [fres_some w0 (show floatBits .sub .f64 vv md = some d from h1), fres_some _ (show floatBits .quo .f64 d md = some q' from h2)])
    · -- then the quotient
      go_simp
      refine hK.out _ _ (by exact SH.redrew hHeld _) (fun hHeld' => ?_)
      clear hK K hHeld
      have hHeld := hHeld'
      clear hHeld'
      try simp only [Act.put, List.setIfInBounds_toArray, List.set_cons_zero, List.set_cons_succ]
      refine wpAnyH_ready (rs := [2]) (by kernel_rfl) (by simp) ?_
      refine AllReadyH.cons rfl (fun K hK => ?_) AllReadyH.nil
      go_simp
      refine (analytic_any nm md _ hl).mono ?_
      rintro e w3 ⟨rfl, hb3⟩
      refine hK.out _ _ (by exact hHeld.below hb3) (fun hHeld' => ?_)
      replace hB := (below_drewN hB _).trans (hb3.mono hB.size)
      clear hK K hHeld hb3
      have hHeld := hHeld'
      clear hHeld'
      try simp only [Act.put, List.setIfInBounds_toArray, List.set_cons_zero, List.set_cons_succ]
      refine wpAnyH_take (i := 27) (v := .bool false) rfl (by kernel_rfl) (by kernel_rfl) (by kernel_rfl) (fun _ _ _ h => h) (Or.inl ⟨by rfl, fun W hW => ?_⟩) hHeld ?_
      · obtain ⟨c0, c1, c2, c3, hz⟩ := hW; clear hHeld; go_simp <;> omega
      try simp only [Act.put, List.setIfInBounds_toArray, List.set_cons_zero, List.set_cons_succ]
      refine wpAnyH_take (i := 28) (v := undef) rfl (by kernel_rfl) (by kernel_rfl) (by kernel_rfl) (fun _ _ _ h => h) (Or.inr ⟨by kernel_rfl, rfl⟩) hHeld ?_
      try simp only [Act.put, List.setIfInBounds_toArray, List.set_cons_zero, List.set_cons_succ]
      refine wpAnyH_take (i := 29) (v := undef) rfl (by kernel_rfl) (by kernel_rfl) (by kernel_rfl) (fun _ _ _ h => h) (Or.inr ⟨by kernel_rfl, rfl⟩) hHeld ?_
      try simp only [Act.put, List.setIfInBounds_toArray, List.set_cons_zero, List.set_cons_succ]
      refine wpAnyH_take (i := 30) (v := .bool false) rfl (by kernel_rfl) (by kernel_rfl) (by kernel_rfl) (fun _ _ _ h => h) (Or.inl ⟨by rfl, fun W hW => ?_⟩) hHeld ?_
      · obtain ⟨c0, c1, c2, c3, hz⟩ := hW; clear hHeld; go_simp <;> omega
      try simp only [Act.put, List.setIfInBounds_toArray, List.set_cons_zero, List.set_cons_succ]
      refine wpAnyH_take (i := 31) (v := .agg #[.string (nm ++ { data := #[95, 101, 114, 114, 111, 114] }), .float .f64 ((fres .quo (fres .sub vv md w0).1 md (w0.drewN (fres .sub vv md w0).2)).1), .bool false]) rfl (by kernel_rfl) (by kernel_rfl) (by kernel_rfl) (fun _ _ _ h => h) (Or.inl ⟨by rfl, fun W hW => ?_⟩) hHeld ?_
      · obtain ⟨c0, c1, c2, c3, hz⟩ := hW; clear hHeld; go_simp <;> omega
      try simp only [Act.put, List.setIfInBounds_toArray, List.set_cons_zero, List.set_cons_succ]
      refine wpAnyH_ready (rs := [32]) (by kernel_rfl) (by simp) ?_
      refine AllReadyH.cons rfl (fun K hK => ?_) AllReadyH.nil
      go_simp
      refine hK.out _ _ (by exact hHeld.below ((Below.refl _ _).alloc (Nat.le_refl _) _)) (fun hHeld' => ?_)
      clear hK K hHeld
      have hHeld := hHeld'
      clear hHeld'
      try simp only [Act.put, List.setIfInBounds_toArray, List.set_cons_zero, List.set_cons_succ]
      refine wpAnyH_ready (rs := [33]) (by kernel_rfl) (by simp) ?_
      refine AllReadyH.cons rfl (fun K hK => ?_) AllReadyH.nil
      go_simp
      refine hK.out _ _ (by exact hHeld) (fun _ => ?_)
      clear hK K
      try simp only [Act.put, List.setIfInBounds_toArray, List.set_cons_zero, List.set_cons_succ]
      refine wpAnyH_done (by kernel_rfl) ?_ _
      go_wp2
      go_ret
      exact cpost_mk (nm := nm) (hw := hw) (hv := false) (hh := hh) (g := w3.heap.size) (q := (fres .quo (fres .sub vv md w0).1 md (w0.drewN (fres .sub vv md w0).2)).1) rfl (hB) rfl (fun d q' h1 h2 => by rw [fres_some w0 (show floatBits .sub .f64 vv md = some d from h1), fres_some _ (show floatBits .quo .f64 d md = some q' from h2)])

/-- 'compared', whatever the estimate holds. -/
theorem compared_any (nm : ByteArray) (md vv hw : Nat) (hv hh : Bool) (w : World) (hl : nm.size ≤ 1048576) :
    Calls Try.prog 15 #[.string nm, .float .f64 md, .agg #[.float .f64 vv, .float .f64 hw, .bool hv, .bool hh]] w fun e w' => CPost w nm md vv hw hv hh e w' := by
  cases hv
  · exact compared_false nm md vv hw hh w hl
  · exact compared_true nm md vv hw hh w hl
end Go.Proofs.Qxb6604386a
