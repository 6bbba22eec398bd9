import Derived.Test.Qxb6616291aIn
import Derived.ProofKit
import Derived.OpenShut
import Derived.Deep.Fields
namespace Go.Proofs.Qxb6616291a
open Go.ChangeShapes Go.WideShapes Go.RowKit Go.Deep
section
variable {H : Type} {enc : TypeId × Value → H} {P : Program} {w : World} {base : Nat} {spare : Nat → Bool} {held : Bool}
/-- a struct's cells, field by field -/
theorem fields_of {ts : TypeId} {fs : Array Field} {fuel : Nat} {cs : List Value} {x : DataW H × List MemPlace} (hs : P.underlying ts = some (.struct fs)) (hone : oneCellFields P fs = true) (hC : P.cellsOf ts = fs.size) (h : DataW.trod enc P w base spare held fuel ts cs = some x) :
    cs.length = fs.size ∧ ∃ n, ∀ (i : Nat) (f : Field), fs[i]? = some f → ∃ y, DataW.trod enc P w base spare held n f.type [cs.getD i undef] = some y := by
  obtain ⟨xs, n, _, rfl, hl, hxl, hf⟩ := DataW.trod_struct hs h
  refine ⟨hl.trans hC, n, fun i f hi => ?_⟩
  have hlt : i < fs.size := (Array.getElem?_eq_some_iff.1 hi).1
  obtain ⟨ho, hc1⟩ := hone_of hone i f hi
  have g := hf i f hi
  rw [ho, hc1, take1_drop cs i undef (by rw [hl, hC]; exact hlt), List.getElem?_eq_getElem (by omega)] at g
  exact ⟨_, g⟩
/-- a slice of bytes that came in -/
theorem bytes_of {t e : TypeId} {fuel : Nat} {v : Value} {y : DataW H × List MemPlace} (ht : P.underlying t = some (.slice e)) (he : P.underlying e = some (.int .u8)) (hc : P.cellsOf e = 1) (h : DataW.trod enc P w base spare held fuel t [v] = some y) :
    ∃ a l c z, v = .slice a l c ∧ l ≤ maxLen ∧ (a = none → l = 0 ∧ c = 0) ∧ BytesAt w a l z := by
  rcases open_ints ht he hc h with ⟨hcs, _⟩ | ⟨a, len, cap, zs, hcs, hb, hl, hm, hz, _, hcell, _⟩
  · simp at hcs
    exact ⟨none, 0, 0, fun _ => 0, hcs, Nat.zero_le _, fun _ => ⟨rfl, rfl⟩, fun j hj => absurd hj (Nat.not_lt_zero _)⟩
  · simp at hcs
    refine ⟨some a, len, cap, fun j => zs.getD j 0, hcs, Nat.le_trans hl hm, (fun h => by cases h), fun j hj => ?_⟩
    have hj' : j < zs.length := by rw [hz]; split <;> omega
    have hc := hcell j hj'
    have h0 := hcell 0 (by omega)
    obtain ⟨b, off, spot⟩ := a
    have hspot : spot = none := by simpa [Addr.add] using World.cell?_spot h0
    subst hspot
    rw [add_plain] at hc
    exact ⟨b, off, rfl, World.block_lt_of_cell? w _ hc, hc⟩

theorem list10 {α : Type} {l : List α} (h : l.length = 10) : ∃ a0 a1 a2 a3 a4 a5 a6 a7 a8 a9, l = [a0, a1, a2, a3, a4, a5, a6, a7, a8, a9] := by
  match l, h with
  | [a0, a1, a2, a3, a4, a5, a6, a7, a8, a9], _ => exact ⟨a0, a1, a2, a3, a4, a5, a6, a7, a8, a9, rfl⟩
theorem list11 {α : Type} {l : List α} (h : l.length = 11) : ∃ a0 a1 a2 a3 a4 a5 a6 a7 a8 a9 a10, l = [a0, a1, a2, a3, a4, a5, a6, a7, a8, a9, a10] := by
  match l, h with
  | [a0, a1, a2, a3, a4, a5, a6, a7, a8, a9, a10], _ => exact ⟨a0, a1, a2, a3, a4, a5, a6, a7, a8, a9, a10, rfl⟩
theorem int_bounds {n : Int} (h : (Lit.int .i64 n).wf = true) : -9223372036854775808 ≤ n ∧ n ≤ 9223372036854775807 := bounds_i64 h
end
section
variable {H : Type} {enc : TypeId × Value → H} {w : World} {base : Nat} {spare : Nat → Bool} {held : Bool}
/-- a branch that came in -/
theorem branch_of {fuel : Nat} {cs : List Value} {x : DataW H × List MemPlace} (h : DataW.trod enc Try.prog w base spare held fuel 62 cs = some x) : ∃ b : Br, cs = b.vals.toList ∧ b.Ok w := by
  obtain ⟨hl, n, hf⟩ := fields_of Try.underlying62 (by kernel_rfl) (by kernel_rfl) h
  obtain ⟨v0, v1, v2, v3, v4, v5, v6, v7, v8, v9, rfl⟩ := list10 hl
  obtain ⟨_, f0⟩ := hf 0 _ rfl
  obtain ⟨_, f1⟩ := hf 1 _ rfl
  obtain ⟨_, f2⟩ := hf 2 _ rfl
  obtain ⟨_, f3⟩ := hf 3 _ rfl
  obtain ⟨_, f4⟩ := hf 4 _ rfl
  obtain ⟨_, f5⟩ := hf 5 _ rfl
  obtain ⟨_, f6⟩ := hf 6 _ rfl
  obtain ⟨_, f7⟩ := hf 7 _ rfl
  obtain ⟨_, f8⟩ := hf 8 _ rfl
  obtain ⟨_, f9⟩ := hf 9 _ rfl
  obtain ⟨i0, e0, -, -⟩ := DataW.trod_int Try.underlying2 f0
  obtain ⟨s1, e1, -, l1⟩ := DataW.trod_string Try.underlying9 f1
  obtain ⟨s2, e2, -, l2⟩ := DataW.trod_string Try.underlying9 f2
  obtain ⟨s3, e3, -, l3⟩ := DataW.trod_string Try.underlying9 f3
  obtain ⟨s4, e4, -, l4⟩ := DataW.trod_string Try.underlying9 f4
  obtain ⟨ca, cl, cc, z, e5, l5, n5, z5⟩ := bytes_of Try.underlying48 Try.underlying5 (by kernel_rfl) f5
  obtain ⟨s6, e6, -, l6⟩ := DataW.trod_string Try.underlying9 f6
  obtain ⟨s7, e7, -, l7⟩ := DataW.trod_string Try.underlying9 f7
  obtain ⟨i8, e8, -, -⟩ := DataW.trod_int Try.underlying3 f8
  obtain ⟨s9, e9, -, l9⟩ := DataW.trod_string Try.underlying9 f9
  simp at e0 e1 e2 e3 e4 e5 e6 e7 e8 e9
  subst e0 e1 e2 e3 e4 e5 e6 e7 e8 e9
  exact ⟨⟨i0, s1, s2, s3, s4, ca, cl, cc, s6, s7, i8, s9, z⟩, rfl, ⟨l1, l2, l3, l4, l6, l7, l9, l5, n5, z5⟩⟩
/-- some branch -/
def br0 : Br := ⟨0, ⟨#[]⟩, ⟨#[]⟩, ⟨#[]⟩, ⟨#[]⟩, none, 0, 0, ⟨#[]⟩, ⟨#[]⟩, 0, ⟨#[]⟩, fun _ => 0⟩
/-- the branches that came in -/
theorem branches_of {fuel : Nat} {v : Value} {x : DataW H × List MemPlace} (h : DataW.trod enc Try.prog w base spare held fuel 47 [v] = some x) :
    ∃ a l c B, v = .slice a l c ∧ l ≤ maxLen ∧ (a = none → l = 0 ∧ c = 0) ∧ BrsAt w a l B := by
  rcases open_slice Try.underlying47 h with ⟨hcs, _⟩ | ⟨a, len, cap, m, n, D, Pl, hcs, hb, hl, hm, hmm, _, hx⟩
  · simp at hcs
    exact ⟨none, 0, 0, fun _ => br0, hcs, Nat.zero_le _, fun _ => ⟨rfl, rfl⟩, fun j hj => absurd hj (Nat.not_lt_zero _)⟩
  · simp at hcs
    have hc10 : Try.prog.cellsOf 62 = 10 := by kernel_rfl
    rw [hc10] at hx
    have inh : Inhabited Br := ⟨br0⟩
    obtain ⟨B, hB⟩ := choose_lt (α := Br) (n := len) (p := fun i b => w.cells? base (a.add (i * 10)) 10 = some b.vals.toList ∧ b.Ok w) (fun i hi => by
      obtain ⟨cs', h1, h2⟩ := hx i (by rw [hmm]; split <;> omega)
      obtain ⟨b, rfl, hok⟩ := branch_of h2
      exact ⟨b, h1, hok⟩)
    refine ⟨some a, len, cap, B, hcs, Nat.le_trans hl hm, (fun h => by cases h), fun i hi => ?_⟩
    obtain ⟨h1, hok⟩ := hB i hi
    obtain ⟨_, _, hcell⟩ := World.cells?_some h1
    obtain ⟨b, off, spot⟩ := a
    have hspot : spot = none := by
      obtain ⟨g1, -⟩ := hB 0 (by omega)
      obtain ⟨_, _, gcell⟩ := World.cells?_some g1
      have h0 := gcell 0 (by omega)
      have e : ((B 0).vals.toList)[0]? = some (.int .i64 (B 0).id) := rfl
      rw [e] at h0
      simpa [Addr.add] using World.cell?_spot h0
    subst hspot
    have key : ∀ j, j < 10 → w.cell? ⟨b, off + i * 10 + j, none⟩ = (B i).vals[j]? := fun j hj => by
      have := hcell j hj
      rw [add_plain, add_plain] at this
      simpa using this
    refine ⟨b, off, rfl, ?_, key, hok⟩
    have k0 := key 0 (by omega)
    have e : ((B i).vals)[0]? = some (.int .i64 (B i).id) := rfl
    rw [e] at k0
    exact World.block_lt_of_cell? w _ k0
/-- a direction that came in -/
theorem dir_of {fuel : Nat} {v : Value} {x : DataW H × List MemPlace} (h : DataW.trod enc Try.prog w base spare held fuel 46 [v] = some x) : ∃ p, v = .pointer p ∧ DirAt w p := by
  rcases open_ptr_fields Try.underlying46 Try.underlying57 (hone_of (by kernel_rfl)) (by kernel_rfl) (by decide) h with ⟨hcs, _⟩ | ⟨b, o, n, V, Y, hcs, hb, _, hf⟩
  · simp at hcs
    exact ⟨none, hcs, fun d hd => by cases hd⟩
  · simp at hcs
    refine ⟨_, hcs, fun d hd => ?_⟩
    cases hd
    obtain ⟨c0, t0⟩ := hf 0 _ rfl
    obtain ⟨c1, t1⟩ := hf 1 _ rfl
    obtain ⟨c2, t2⟩ := hf 2 _ rfl
    obtain ⟨c3, t3⟩ := hf 3 _ rfl
    obtain ⟨c4, t4⟩ := hf 4 _ rfl
    obtain ⟨s0, e0, -, l0⟩ := DataW.trod_string Try.underlying9 t0
    obtain ⟨s1, e1, -, l1⟩ := DataW.trod_string Try.underlying9 t1
    obtain ⟨s2, e2, -, l2⟩ := DataW.trod_string Try.underlying9 t2
    obtain ⟨s3, e3, -, l3⟩ := DataW.trod_string Try.underlying9 t3
    obtain ⟨s4, e4, -, l4⟩ := DataW.trod_string Try.underlying9 t4
    simp at e0 e1 e2 e3 e4
    rw [e0] at c0
    rw [e1] at c1
    rw [e2] at c2
    rw [e3] at c3
    rw [e4] at c4
    exact ⟨b, o, rfl, World.block_lt_of_cell? w _ c0, s0, s1, s2, s3, s4, c0, c1, c2, c3, c4, l0, l1, l2, l3, l4⟩
/-- a transaction that came in -/
theorem txn_of {fuel : Nat} {cs : List Value} {x : DataW H × List MemPlace} (h : DataW.trod enc Try.prog w base spare held fuel 50 cs = some x) : ∃ t : Tx, t.val = .agg cs.toArray ∧ t.Ok w := by
  obtain ⟨hl, n, hf⟩ := fields_of Try.underlying50 (by kernel_rfl) (by kernel_rfl) h
  obtain ⟨v0, v1, v2, v3, v4, v5, v6, v7, v8, v9, v10, rfl⟩ := list11 hl
  obtain ⟨_, f0⟩ := hf 0 _ rfl
  obtain ⟨_, f1⟩ := hf 1 _ rfl
  obtain ⟨_, f2⟩ := hf 2 _ rfl
  obtain ⟨_, f3⟩ := hf 3 _ rfl
  obtain ⟨_, f4⟩ := hf 4 _ rfl
  obtain ⟨_, f5⟩ := hf 5 _ rfl
  obtain ⟨_, f6⟩ := hf 6 _ rfl
  obtain ⟨_, f7⟩ := hf 7 _ rfl
  obtain ⟨_, f8⟩ := hf 8 _ rfl
  obtain ⟨_, f9⟩ := hf 9 _ rfl
  obtain ⟨_, f10⟩ := hf 10 _ rfl
  obtain ⟨s0, e0, -, l0⟩ := DataW.trod_string Try.underlying9 f0
  obtain ⟨s1, e1, -, l1⟩ := DataW.trod_string Try.underlying9 f1
  obtain ⟨p2, e2, hd2⟩ := dir_of f2
  obtain ⟨i3, e3, -, w3⟩ := DataW.trod_int Try.underlying2 f3
  obtain ⟨i4, e4, -, w4⟩ := DataW.trod_int Try.underlying2 f4
  obtain ⟨i5, e5, -, w5⟩ := DataW.trod_int Try.underlying2 f5
  obtain ⟨i6, e6, -, -⟩ := DataW.trod_int Try.underlying30 f6
  obtain ⟨ba, bl, bc, B, e7, l7, n7, b7⟩ := branches_of f7
  obtain ⟨b8, e8, -⟩ := DataW.trod_bool Try.underlying4 f8
  obtain ⟨i9, e9, -, -⟩ := DataW.trod_int Try.underlying3 f9
  obtain ⟨ra, rl, rc, rz, e10, l10, n10, z10⟩ := bytes_of Try.underlying48 Try.underlying5 (by kernel_rfl) f10
  simp at e0 e1 e2 e3 e4 e5 e6 e7 e8 e9 e10
  subst e0 e1 e2 e3 e4 e5 e6 e7 e8 e9 e10
  exact ⟨⟨s0, s1, p2, i3, i4, i5, i6, ba, bl, bc, b8, i9, ra, rl, rc, rz, B⟩, rfl, ⟨l0, l1, hd2, int_bounds w3, int_bounds w4, int_bounds w5, l7, n7, b7, l10, n10, z10⟩⟩
end
end Go.Proofs.Qxb6616291a
