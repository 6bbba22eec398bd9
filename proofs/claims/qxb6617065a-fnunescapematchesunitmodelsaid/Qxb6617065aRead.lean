/- A slice of bytes that came in, as the walks read it. -/
import Derived.Test.Qxb6617065aRow
import Derived.OpenShut
namespace Go.Proofs.Qxb6617065a
open Go.RowKit
theorem row8_cells {w : World} {x : Addr} {zs : List Int} {len : Nat} (hl : len ≤ zs.length) (hc : ∀ i, i < zs.length → w.cell? (x.add i) = some (.int .u8 (zs.getD i 0))) (hw : ∀ n ∈ zs, (Lit.int .u8 n).wf = true) :
    Row8 w (some x) (zs.take len) ∧ (zs.take len).length = len := by
  refine ⟨?_, by rw [List.length_take]; omega⟩
  cases len with
  | zero => exact .inl rfl
  | succ m =>
    obtain ⟨b, off, spot⟩ := x
    have h0 := hc 0 (by omega)
    have hspot : spot = none := by simpa [Addr.add] using World.cell?_spot h0
    subst hspot
    have ad : ∀ j, (⟨b, off, none⟩ : Addr).add j = ⟨b, off + j, none⟩ := fun j => by unfold Addr.add; split <;> simp_all
    have h0' := h0
    rw [ad] at h0'
    refine .inr ⟨b, off, rfl, World.block_lt_of_cell? w _ h0', fun j c hj => ?_⟩
    rw [List.getElem?_take] at hj
    split at hj
    · have hjl : j < zs.length := (List.getElem?_eq_some_iff.1 hj).1
      have h1 := hc j hjl
      rw [ad, List.getD_eq_getElem?_getD, hj] at h1
      exact ⟨h1, bounds_u8 (hw c (List.mem_of_getElem? hj))⟩
    · cases hj
end Go.Proofs.Qxb6617065a
