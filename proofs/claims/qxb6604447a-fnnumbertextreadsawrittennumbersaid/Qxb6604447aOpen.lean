/- A slice of bytes that came in, as the walks take it. -/
import Derived.Test.Qxb6604447aWalkC
import Derived.ProofKit
import Derived.OpenShut
import Derived.ChangeOld
import Derived.Below
namespace Go.Proofs.Qxb6604447a
open Go.ChangeShapes Go.WideShapes Go.ChangeAt Go.RowKit
set_option linter.unusedVariables false

theorem byts_open {H : Type} {enc : TypeId × Value → H} {W : World} {a : Option Addr} {len cap : Nat} {d : DataW H} {ps : List MemPlace}
    (h : DataW.Trod enc Try.prog W 0 (fun _ => true) true 22 (.slice a len cap) d ps) : ∃ S : Nat → Int, Byts W a len cap S ∧ (a = none → len = 0) ∧ len ≤ maxLen ∧ ∀ k, 0 ≤ S k ∧ S k ≤ 255 := by
  have lt0 : ∀ x ∈ ps, x.block < W.heap.size := by obtain ⟨m, hm⟩ := h; exact DataW.trod_lt m _ _ _ hm
  obtain ⟨fuel, hf⟩ := h
  rcases open_ints Try.underlying22 Try.underlying5 (by kernel_rfl) hf with ⟨hcs, _⟩ | ⟨x, l, c, zs, hcs, _, hl, hm, hz, hx, hcell, hwz⟩
  · simp [Value.cells] at hcs
    obtain ⟨rfl, rfl, rfl⟩ := hcs
    exact ⟨fun _ => 0, ⟨Nat.le_refl _, .inl rfl⟩, fun _ => rfl, Nat.zero_le _, fun _ => ⟨Int.le_refl _, (by decide : (0 : Int) ≤ 255)⟩⟩
  · simp [Value.cells] at hcs
    obtain ⟨rfl, rfl, rfl⟩ := hcs
    simp only [Prod.mk.injEq] at hx
    obtain ⟨_, rfl⟩ := hx
    have hzl : zs.length = cap := by simpa using hz
    refine ⟨fun i => zs.getD i 0, ⟨hl, ?_⟩, (fun h => by cases h), Nat.le_trans hl hm, fun k => ?_⟩
    · by_cases h0 : len = 0
      · exact .inl h0
      · right
        obtain ⟨b, off, spot⟩ := x
        have hspot : spot = none := by simpa [Addr.add] using World.cell?_spot (hcell 0 (by omega))
        subst hspot
        have hb : b < W.heap.size := lt0 (.cell b off) (MemPlace.mem_row.2 ⟨0, by omega, by simp⟩)
        refine ⟨b, off, rfl, hb, fun k hk => ?_⟩
        rw [← add_plain]; exact hcell k (by omega)
    · cases hk : zs[k]? with
      | none => simp [List.getD, hk]
      | some v =>
        have hw := hwz v (List.mem_of_getElem? hk)
        simp only [Lit.wf, Bool.and_eq_true, decide_eq_true_eq] at hw
        have e1 : IntKind.u8.min = 0 := by decide
        have e2 : IntKind.u8.max = 255 := by decide
        rw [e1, e2] at hw
        simpa [List.getD, hk] using hw
end Go.Proofs.Qxb6604447a
