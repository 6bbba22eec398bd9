/- The slices that came in, as the walk reads them. -/
import Derived.Test.Qxb6617582aHome
import Derived.ProofKit
import Derived.OpenShut
import Derived.Deep.Slices
namespace Go.Proofs.Qxb6617582a
open Go.ChangeShapes Go.WideShapes Go.RowKit Go.Deep
section
variable {H : Type} {enc : TypeId × Value → H} {w : World} {base : Nat} {spare : Nat → Bool} {held : Bool}
theorem slice_in {T e : TypeId} (hT : Try.prog.underlying T = some (.slice e)) (hc : Try.prog.cellsOf e = 1) {fuel : Nat} {v : Value} {x : DataW H × List MemPlace} (Pr : Value → Prop) (hP : ∀ n u y, DataW.trod enc Try.prog w base spare held n e [u] = some y → Pr u)
    (h : DataW.trod enc Try.prog w base spare held fuel T [v] = some x) :
    ∃ a n c V, v = .slice a n c ∧ RowV w a n V ∧ n ≤ c ∧ c ≤ maxLen ∧ (a = none → c = 0) ∧ ∀ i, i < n → Pr (V i) := by
  rcases open_slice1 hT hc h with ⟨hcs, _⟩ | ⟨a, len, cap, m, n, V, D, Pl, hcs, hb, hl, hm, hmm, _, hx⟩
  · simp at hcs
    exact ⟨none, 0, 0, fun _ => undef, hcs, .inl rfl, Nat.le_refl _, Nat.zero_le _, fun _ => rfl, fun i hi => by omega⟩
  · simp at hcs
    have hlm : len ≤ m := by rw [hmm]; split <;> omega
    refine ⟨some a, len, cap, V, hcs, ?_, hl, hm, (fun h => by cases h), fun i hi => hP n (V i) _ (hx i (by omega)).2⟩
    by_cases h0 : len = 0
    · exact .inl h0
    obtain ⟨b, off, spot⟩ := a
    have g0 := (hx 0 (by omega)).1
    have hspot : spot = none := by simpa [Addr.add] using World.cell?_spot g0
    subst hspot
    have ad : ∀ j, (⟨b, off, none⟩ : Addr).add j = ⟨b, off + j, none⟩ := fun j => by unfold Addr.add; split <;> simp_all
    rw [ad] at g0
    exact .inr ⟨b, off, rfl, World.block_lt_of_cell? w _ g0, fun j hj => by have := (hx j (by omega)).1; rwa [ad] at this⟩
def strOf : Value → ByteArray
  | .string s => s
  | _ => ⟨#[]⟩
def boolOf : Value → Bool
  | .bool b => b
  | _ => false
theorem strings_in {fuel : Nat} {v : Value} {x : DataW H × List MemPlace} (h : DataW.trod enc Try.prog w base spare held fuel 22 [v] = some x) :
    ∃ a n c, ∃ ss : Nat → ByteArray, v = .slice a n c ∧ RowV w a n (fun j => .string (ss j)) ∧ n ≤ c ∧ c ≤ maxLen ∧ (a = none → c = 0) ∧ ∀ i, i < n → (ss i).size ≤ maxLen := by
  obtain ⟨a, n, c, V, h1, h2, h3, h4, h5, h6⟩ := slice_in Try.underlying22 (by kernel_rfl) (fun u => ∃ s, u = .string s ∧ s.size ≤ maxLen) (fun n u y hu => by
    obtain ⟨s, e, _, hs⟩ := DataW.trod_string Try.underlying9 hu
    simp at e
    exact ⟨s, e, hs⟩) h
  refine ⟨a, n, c, fun j => strOf (V j), h1, h2.congr (fun j hj => ?_), h3, h4, h5, fun i hi => ?_⟩
  · obtain ⟨s, e, -⟩ := h6 j hj
    show _ = Value.string (strOf (V j))
    rw [e]
    rfl
  · obtain ⟨s, e, hs⟩ := h6 i hi
    show (strOf (V i)).size ≤ maxLen
    rw [e]
    exact hs
theorem ints_in {fuel : Nat} {v : Value} {x : DataW H × List MemPlace} (h : DataW.trod enc Try.prog w base spare held fuel 23 [v] = some x) :
    ∃ a n c, ∃ pp : Nat → Int, v = .slice a n c ∧ RowV w a n (fun j => .int .i64 (pp j)) ∧ n ≤ c ∧ c ≤ maxLen ∧ (a = none → c = 0) ∧ ∀ i, i < n → (Lit.int .i64 (pp i)).wf = true := by
  obtain ⟨a, n, c, V, h1, h2, h3, h4, h5, h6⟩ := slice_in Try.underlying23 (by kernel_rfl) (fun u => ∃ s, u = .int .i64 s ∧ (Lit.int .i64 s).wf = true) (fun n u y hu => by
    obtain ⟨s, e, _, hs⟩ := DataW.trod_int Try.underlying3 hu
    simp at e
    exact ⟨s, e, hs⟩) h
  refine ⟨a, n, c, fun j => intOf (V j), h1, h2.congr (fun j hj => ?_), h3, h4, h5, fun i hi => ?_⟩
  · obtain ⟨s, e, -⟩ := h6 j hj
    show _ = Value.int .i64 (intOf (V j))
    rw [e]
    rfl
  · obtain ⟨s, e, hs⟩ := h6 i hi
    show (Lit.int .i64 (intOf (V i))).wf = true
    rw [e]
    exact hs
theorem bools_in {fuel : Nat} {v : Value} {x : DataW H × List MemPlace} (h : DataW.trod enc Try.prog w base spare held fuel 24 [v] = some x) :
    ∃ a n c, ∃ bs : Nat → Bool, v = .slice a n c ∧ RowV w a n (fun j => .bool (bs j)) ∧ n ≤ c ∧ c ≤ maxLen ∧ (a = none → c = 0) := by
  obtain ⟨a, n, c, V, h1, h2, h3, h4, h5, h6⟩ := slice_in Try.underlying24 (by kernel_rfl) (fun u => ∃ s, u = .bool s) (fun n u y hu => by
    obtain ⟨s, e, _⟩ := DataW.trod_bool Try.underlying4 hu
    simp at e
    exact ⟨s, e⟩) h
  refine ⟨a, n, c, fun j => boolOf (V j), h1, h2.congr (fun j hj => ?_), h3, h4, h5⟩
  obtain ⟨s, e⟩ := h6 j hj
  show _ = Value.bool (boolOf (V j))
  rw [e]
  rfl
end
end Go.Proofs.Qxb6617582a
