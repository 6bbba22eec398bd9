import Derived.Test.Qxb6617582aSl
import Derived.Deep.RegionHeld3
namespace Go.Proofs.Qxb6617582a
open Go.RowKit Go.Maps
set_option maxHeartbeats 4000000
set_option maxRecDepth 100000
/-- a slice, copied or nil -/
def InV (w wr : World) (A : Option Addr) (n C : Nat) (f : Nat → Value) : Prop := Below w.heap.size w wr ∧ RowV wr A n f ∧ n ≤ C ∧ C ≤ maxLen ∧ (A = none → C = 0)
/-- what is known of the four slices -/
structure Four (w : World) (a0 a1 a2 a3 : Option Addr) (n0 n1 n2 n3 c0 c1 c2 c3 : Nat) (ss : Nat → ByteArray) (pp qq : Nat → Int) (bs : Nat → Bool) : Prop where
  r0 : RowV w a0 n0 (fun j => .string (ss j))
  r1 : RowV w a1 n1 (fun j => .int .i64 (pp j))
  r2 : RowV w a2 n2 (fun j => .int .i64 (qq j))
  r3 : RowV w a3 n3 (fun j => .bool (bs j))
  l0 : n0 ≤ c0
  l1 : n1 ≤ c1
  l2 : n2 ≤ c2
  l3 : n3 ≤ c3
  m0 : c0 ≤ maxLen
  m1 : c1 ≤ maxLen
  m2 : c2 ≤ maxLen
  m3 : c3 ≤ maxLen
  z0 : a0 = none → c0 = 0
  z1 : a1 = none → c1 = 0
  z2 : a2 = none → c2 = 0
  z3 : a3 = none → c3 = 0
  s : ∀ i, i < n0 → (ss i).size ≤ maxLen
  p : ∀ i, i < n1 → (Lit.int .i64 (pp i)).wf = true
  q : ∀ i, i < n2 → (Lit.int .i64 (qq i)).wf = true
theorem Four.below {w w' : World} {a0 a1 a2 a3 : Option Addr} {n0 n1 n2 n3 c0 c1 c2 c3 : Nat} {ss : Nat → ByteArray} {pp qq : Nat → Int} {bs : Nat → Bool} (h : Four w a0 a1 a2 a3 n0 n1 n2 n3 c0 c1 c2 c3 ss pp qq bs) (hb : Below w.heap.size w w') : Four w' a0 a1 a2 a3 n0 n1 n2 n3 c0 c1 c2 c3 ss pp qq bs :=
  ⟨h.r0.below hb, h.r1.below hb, h.r2.below hb, h.r3.below hb, h.l0, h.l1, h.l2, h.l3, h.m0, h.m1, h.m2, h.m3, h.z0, h.z1, h.z2, h.z3, h.s, h.p, h.q⟩
theorem allAt_split {pp qq : Nat → Int} {n k : Nat} {ii dd : Int} (hk : k ≤ n) : AllAt pp qq n ii dd ↔ AllAt pp qq k ii dd ∧ AllAt (fun j => pp (k + j)) (fun j => qq (k + j)) (n - k) ii dd := by
  constructor
  · intro h
    exact ⟨fun i hi => h i (by omega), fun i hi => h (k + i) (by omega)⟩
  · rintro ⟨h1, h2⟩ i hi
    by_cases e : i < k
    · exact h1 i e
    · have := h2 (i - k) (by omega)
      simp only [show k + (i - k) = i by omega] at this
      exact this
theorem a_bool (p : Prop) : ∃ b : Bool, b = true ↔ p := by
  by_cases h : p
  · exact ⟨true, fun _ => h, fun _ => rfl⟩
  · exact ⟨false, fun e => (by cases e), fun e => absurd e h⟩
/-- what the home rows hold after i rounds -/
def Fh (i : Nat) (x : Int) : Nat → Value := fun j => .int .i64 (if j < i then x else 0)
def HRel (W : World) (k : Nat) (ii dd : Int) (vi : Value) (wr : World) : Prop :=
  ∃ i : Nat, i ≤ k ∧ vi = .int .i64 i ∧ Hid (wr.rowIs W.heap.size 3 (k + 1) (Fh i ii)) ∧ Hid (wr.rowIs (W.heap.size + 1) 3 (k + 1) (Fh i dd)) ∧ Hid (Below W.heap.size W wr)
theorem home_start (W : World) (k : Nat) (ii dd : Int) (vi : Value) (hv : vi = .int .i64 0) : HRel W k ii dd vi ((W.alloc (.cells (madeCells #[.int .i64 0] (k + 1)) 3)).alloc (.cells (madeCells #[.int .i64 0] (k + 1)) 3)) := by
  refine ⟨0, Nat.zero_le _, hv, ?_, ?_, (below1 W _).alloc (by simp) _⟩
  · exact ((World.rowIs_made W (.int .i64 0) (k + 1) 3).alloc _).congr (fun i _ => by simp [Fh])
  · have := (World.rowIs_made (W.alloc (.cells (madeCells #[.int .i64 0] (k + 1)) 3)) (.int .i64 0) (k + 1) 3).congr (g := Fh 0 dd) (fun i _ => by simp [Fh])
    simp only [World.size_alloc] at this
    exact this
theorem home_step {W wr : World} {k i : Nat} {ii dd j : Int} (hi : i < k) (h1 : wr.rowIs W.heap.size 3 (k + 1) (Fh i ii)) (h2 : wr.rowIs (W.heap.size + 1) 3 (k + 1) (Fh i dd)) (hb : Below W.heap.size W wr) (hj : j = (i + 1 : Nat)) :
    HRel W k ii dd (.int .i64 j) ((wr.setCell ⟨W.heap.size, i, none⟩ (.int .i64 ii)).setCell ⟨W.heap.size + 1, i, none⟩ (.int .i64 dd)) := by
  subst hj
  refine ⟨i + 1, by omega, rfl, ?_, ?_, (hb.setCell (Nat.le_refl _) _).setCell (Nat.le_succ _) _⟩
  · refine ((h1.set i (.int .i64 ii)).setOther (by simp) _).congr (fun j _ => ?_)
    by_cases e : j = i
    · simp [e, Fh]
    · have : (j < i + 1) = (j < i) := by simp; omega
      simp [e, Fh, this]
  · refine ((h2.setOther (a := ⟨W.heap.size, i, none⟩) (by simp) _).set i (.int .i64 dd)).congr (fun j _ => ?_)
    by_cases e : j = i
    · simp [e, Fh]
    · have : (j < i + 1) = (j < i) := by simp; omega
      simp [e, Fh, this]
/-- the last key is put at its own place -/
def Fl (k : Nat) (x : Int) (y : Int) : Nat → Int := fun j => if j = k then y else x
theorem allAt_last {k : Nat} {ii dd y z : Int} : AllAt (Fl k ii y) (Fl k dd z) (k + 1) ii dd ↔ y = ii ∧ z = dd := by
  constructor
  · intro h
    have := h k (by omega)
    simpa [Fl] using this
  · rintro ⟨rfl, rfl⟩ i _
    simp [Fl]
structure Rows4 (w : World) (gS gP gI gD n : Nat) (ss : Nat → ByteArray) (pp qq : Nat → Int) (bs : Nat → Bool) : Prop where
  r0 : RowV w (some ⟨gS, 0, none⟩) n (fun j => .string (ss j))
  r1 : RowV w (some ⟨gI, 0, none⟩) n (fun j => .int .i64 (pp j))
  r2 : RowV w (some ⟨gD, 0, none⟩) n (fun j => .int .i64 (qq j))
  r3 : RowV w (some ⟨gP, 0, none⟩) n (fun j => .bool (bs j))
theorem last_rows {w : World} {gS gP gI gD k : Nat} {ss : Nat → ByteArray} {bs : Nat → Bool} {ii dd y z : Int} {es eb : Value} (d1 : gS ≠ gP) (d2 : gS ≠ gI) (d3 : gS ≠ gD) (d4 : gP ≠ gI) (d5 : gP ≠ gD) (d6 : gI ≠ gD)
    (h0 : w.rowIs gS 9 (k + 1) (fun j => if j < k then .string (ss j) else es)) (h3 : w.rowIs gP 4 (k + 1) (fun j => if j < k then .bool (bs j) else eb)) (h1 : w.rowIs gI 3 (k + 1) (Fh k ii)) (h2 : w.rowIs gD 3 (k + 1) (Fh k dd)) :
    Rows4 ((((w.setCell ⟨gS, k, none⟩ (.string (ss k))).setCell ⟨gP, k, none⟩ (.bool (bs k))).setCell ⟨gI, k, none⟩ (.int .i64 y)).setCell ⟨gD, k, none⟩ (.int .i64 z)) gS gP gI gD (k + 1) ss (Fl k ii y) (Fl k dd z) bs := by
  refine ⟨RowV.congr (RowV.of_row ((((h0.set k (.string (ss k))).setOther (a := ⟨gP, k, none⟩) d1 _).setOther (a := ⟨gI, k, none⟩) d2 _).setOther (a := ⟨gD, k, none⟩) d3 _) (Nat.le_refl _)) ?_, RowV.congr (RowV.of_row ((((h1.setOther (a := ⟨gS, k, none⟩) (Ne.symm d2) _).setOther (a := ⟨gP, k, none⟩) (Ne.symm d4) _).set k (.int .i64 y)).setOther (a := ⟨gD, k, none⟩) d6 _) (Nat.le_refl _)) ?_, RowV.congr (RowV.of_row ((((h2.setOther (a := ⟨gS, k, none⟩) (Ne.symm d3) _).setOther (a := ⟨gP, k, none⟩) (Ne.symm d5) _).setOther (a := ⟨gI, k, none⟩) (Ne.symm d6) _).set k (.int .i64 z)) (Nat.le_refl _)) ?_, RowV.congr (RowV.of_row ((((h3.setOther (a := ⟨gS, k, none⟩) (Ne.symm d1) _).set k (.bool (bs k))).setOther (a := ⟨gI, k, none⟩) d4 _).setOther (a := ⟨gD, k, none⟩) d5 _) (Nat.le_refl _)) ?_⟩
  · intro j hj
    by_cases e : j = k
    · simp [e]
    · simp [e, show j < k by omega]
  · intro j hj
    by_cases e : j = k
    · simp [e, Fl]
    · simp [e, Fl, Fh, show j < k by omega]
  · intro j hj
    by_cases e : j = k
    · simp [e, Fl]
    · simp [e, Fl, Fh, show j < k by omega]
  · intro j hj
    by_cases e : j = k
    · simp [e]
    · simp [e, show j < k by omega]
end Go.Proofs.Qxb6617582a
