import Derived.Test.Qxb6616291aIn
import Derived.Deep.DeepCutAuto
import Derived.Deep.DrawnRows
namespace Go.Proofs.Qxb6616291a
open Go.RowKit
set_option maxRecDepth 100000
/-- ten stores, one behind the other -/
def set10 (w : World) (g o : Nat) (v0 v1 v2 v3 v4 v5 v6 v7 v8 v9 : Value) : World :=
  (((((((((w.setCell ⟨g, o, none⟩ v0).setCell ⟨g, o + 1, none⟩ v1).setCell ⟨g, o + 2, none⟩ v2).setCell ⟨g, o + 3, none⟩ v3).setCell ⟨g, o + 4, none⟩ v4).setCell ⟨g, o + 5, none⟩ v5).setCell ⟨g, o + 6, none⟩ v6).setCell ⟨g, o + 7, none⟩ v7).setCell ⟨g, o + 8, none⟩ v8).setCell ⟨g, o + 9, none⟩ v9
theorem grownBy_refl (w : World) (row : Option Nat) : w.grownBy w row := ⟨rfl, rfl, rfl, Nat.le_refl _, fun _ _ _ => rfl⟩
theorem grownBy_trans {a b c : World} {row : Option Nat} (h : a.grownBy b row) (k : b.grownBy c row) : a.grownBy c row :=
  ⟨k.os.trans h.os, k.tape.trans h.tape, k.output.trans h.output, Nat.le_trans h.size k.size, fun i hi hr => (k.block i (Nat.lt_of_lt_of_le hi h.size) hr).trans (h.block i hi hr)⟩
theorem grownBy_setCell (w : World) (g o : Nat) (v : Value) : w.grownBy (w.setCell ⟨g, o, none⟩ v) (some g) :=
  ⟨rfl, rfl, rfl, by simp [World.setCell], fun k _ hk => Below.heap_setCell _ _ _ _ (fun e => hk (by rw [e]))⟩
theorem grownBy_of_below {w w' : World} (h : Below w.heap.size w w') (row : Option Nat) : w.grownBy w' row := ⟨h.os, h.tape, h.output, h.size, fun k hk _ => h.block k hk⟩
theorem set10_grown (w : World) (g o : Nat) (v0 v1 v2 v3 v4 v5 v6 v7 v8 v9 : Value) : w.grownBy (set10 w g o v0 v1 v2 v3 v4 v5 v6 v7 v8 v9) (some g) := by
  unfold set10
  exact grownBy_trans (grownBy_trans (grownBy_trans (grownBy_trans (grownBy_trans (grownBy_trans (grownBy_trans (grownBy_trans (grownBy_trans (grownBy_setCell _ _ _ _) (grownBy_setCell _ _ _ _)) (grownBy_setCell _ _ _ _)) (grownBy_setCell _ _ _ _)) (grownBy_setCell _ _ _ _)) (grownBy_setCell _ _ _ _)) (grownBy_setCell _ _ _ _)) (grownBy_setCell _ _ _ _)) (grownBy_setCell _ _ _ _)) (grownBy_setCell _ _ _ _)
/-- what a row's cells hold behind ten stores -/
def put10 (f : Nat → Value) (o : Nat) (v : Array Value) : Nat → Value := fun j => if o ≤ j ∧ j < o + 10 then v[j - o]! else f j
theorem set10_row {w : World} {g m : Nat} {f : Nat → Value} (h : w.rowIs g 69 m f) (o : Nat) (v0 v1 v2 v3 v4 v5 v6 v7 v8 v9 : Value) :
    (set10 w g o v0 v1 v2 v3 v4 v5 v6 v7 v8 v9).rowIs g 69 m (put10 f o #[v0, v1, v2, v3, v4, v5, v6, v7, v8, v9]) := by
  unfold set10
  refine ((((((((((h.set o v0).set (o + 1) v1).set (o + 2) v2).set (o + 3) v3).set (o + 4) v4).set (o + 5) v5).set (o + 6) v6).set (o + 7) v7).set (o + 8) v8).set (o + 9) v9).congr ?_
  intro i _
  unfold put10
  by_cases hi : o ≤ i ∧ i < o + 10
  · rw [if_pos hi]
    obtain ⟨d, rfl⟩ : ∃ d, i = o + d := ⟨i - o, by omega⟩
    have hd : d < 10 := by omega
    rw [Nat.add_sub_cancel_left]
    clear h hi
    rcases (by omega : d = 0 ∨ d = 1 ∨ d = 2 ∨ d = 3 ∨ d = 4 ∨ d = 5 ∨ d = 6 ∨ d = 7 ∨ d = 8 ∨ d = 9) with rfl | rfl | rfl | rfl | rfl | rfl | rfl | rfl | rfl | rfl <;> simp
  · rw [if_neg hi, if_neg (by omega), if_neg (by omega), if_neg (by omega), if_neg (by omega), if_neg (by omega), if_neg (by omega), if_neg (by omega), if_neg (by omega), if_neg (by omega), if_neg (by omega)]
/-- the first n of a row's branches read as B says; their contexts lie behind block g -/
def BranchRow (w : World) (g n : Nat) (f : Nat → Value) (B : Nat → Br) : Prop :=
  ∀ i, i < n → ∃ ca cc, (∀ j, j < 10 → f (i * 10 + j) = ((B i).at ca cc)[j]!) ∧ ca.isNone = (B i).ca.isNone ∧ BytesAt w ca (B i).cl (B i).z ∧ ∀ x, ca = some x → g < x.block
theorem BytesAt.grown {w w' : World} {a : Option Addr} {len g : Nat} {z : Nat → Int} (h : BytesAt w a len z) (hb : w.grownBy w' (some g)) (hne : ∀ x, a = some x → x.block ≠ g) : BytesAt w' a len z := by
  intro j hj
  obtain ⟨b, off, ha, hlt, hc⟩ := h j hj
  refine ⟨b, off, ha, Nat.lt_of_lt_of_le hlt hb.size, ?_⟩
  have := hne _ ha
  rw [← hc]
  exact World.cell?_of_block (hb.block b hlt (by simpa using this))
theorem BranchRow.grown {w w' : World} {g n : Nat} {f : Nat → Value} {B : Nat → Br} (h : BranchRow w g n f B) (hb : w.grownBy w' (some g)) : BranchRow w' g n f B := by
  intro i hi
  obtain ⟨ca, cc, h1, h2, h3, h4⟩ := h i hi
  exact ⟨ca, cc, h1, h2, h3.grown hb (fun x hx e => by have := h4 x hx; omega), h4⟩
theorem BranchRow.below {w w' : World} {g n : Nat} {f : Nat → Value} {B : Nat → Br} (h : BranchRow w g n f B) (hb : Below w.heap.size w w') : BranchRow w' g n f B := h.grown (grownBy_of_below hb _)
theorem BranchRow.zero (w : World) (g : Nat) (f : Nat → Value) (B : Nat → Br) : BranchRow w g 0 f B := fun _ hi => absurd hi (Nat.not_lt_zero _)
/-- one branch more -/
theorem BranchRow.succ {w : World} {g k : Nat} {f : Nat → Value} {B : Nat → Br} (h : BranchRow w g k f B) (ca : Option Addr) (cc : Nat) (hn : ca.isNone = (B k).ca.isNone) (hz : BytesAt w ca (B k).cl (B k).z) (hg : ∀ x, ca = some x → g < x.block) :
    BranchRow w g (k + 1) (put10 f (k * 10) ((B k).at ca cc)) B := by
  intro i hi
  by_cases e : i = k
  · subst e
    refine ⟨ca, cc, fun j hj => ?_, hn, hz, hg⟩
    unfold put10
    rw [if_pos ⟨by omega, by omega⟩, Nat.add_sub_cancel_left]
  · obtain ⟨ca', cc', h1, h2, h3, h4⟩ := h i (by omega)
    refine ⟨ca', cc', fun j hj => ?_, h2, h3, h4⟩
    rw [← h1 j hj]
    unfold put10
    rw [if_neg (by omega)]
/-- one branch written anew -/
theorem BranchRow.put {w : World} {g n k : Nat} {f : Nat → Value} {B : Nat → Br} {R : Br} (h : BranchRow w g n f B) (ca : Option Addr) (cc : Nat) (hn : ca.isNone = R.ca.isNone) (hz : BytesAt w ca R.cl R.z) (hg : ∀ x, ca = some x → g < x.block) :
    BranchRow w g n (put10 f (k * 10) (R.at ca cc)) (fun i => if i = k then R else B i) := by
  intro i hi
  by_cases e : i = k
  · subst e
    simp only [if_pos]
    refine ⟨ca, cc, fun j hj => ?_, hn, hz, hg⟩
    unfold put10
    rw [if_pos ⟨by omega, by omega⟩, Nat.add_sub_cancel_left]
  · simp only [if_neg e]
    obtain ⟨ca', cc', h1, h2, h3, h4⟩ := h i (by omega)
    refine ⟨ca', cc', fun j hj => ?_, h2, h3, h4⟩
    rw [← h1 j hj]
    unfold put10
    rw [if_neg (by omega)]
/-- each of a branch's ten values takes one cell -/
theorem Br.at_one (b : Br) (ca : Option Addr) (cc j : Nat) (hj : j < 10) : ((b.at ca cc)[j]!).oneCell' = true := by
  rcases (by omega : j = 0 ∨ j = 1 ∨ j = 2 ∨ j = 3 ∨ j = 4 ∨ j = 5 ∨ j = 6 ∨ j = 7 ∨ j = 8 ∨ j = 9) with rfl | rfl | rfl | rfl | rfl | rfl | rfl | rfl | rfl | rfl <;> rfl
theorem BranchRow.one {w : World} {g n : Nat} {f : Nat → Value} {B : Nat → Br} (h : BranchRow w g n f B) : ∀ j, j < n * 10 → (f j).oneCell' = true := by
  intro j hj
  obtain ⟨ca, cc, h1, -⟩ := h (j / 10) (by omega)
  have := h1 (j % 10) (by omega)
  rw [show j / 10 * 10 + j % 10 = j by omega] at this
  rw [this]
  exact Br.at_one _ _ _ _ (by omega)
/-- it answers true -/
def SaysTrue (w : World) (e : Ending) (w' : World) : Prop := e = .returned (.bool true) ∧ Below w.heap.size w w'
/-- the cells of the boxes in which the two arguments lie -/
structure Boxes (w0 : World) (t : Tx) (r : Br) (w : World) : Prop where
  below : Below w0.heap.size w0 w
  size : w0.heap.size + 2 ≤ w.heap.size
  b0 : w.heap[w0.heap.size]? = some (.cells #[.string t.x, .string t.st, .pointer t.dp, .int .i64 t.d1, .int .i64 t.d2, .int .i64 t.d3, .int .u64 t.seq, .slice t.ba t.bl t.bc, .bool t.nx, .int .i64 t.wt, .slice t.ra t.rl t.rc] 50 (0, 0))
  b1 : w.heap[w0.heap.size + 1]? = some (.cells #[.int .i64 r.id, .string r.s1, .string r.s2, .string r.s3, .string r.s4, .slice r.ca r.cl r.cc, .string r.s6, .string r.s7, .int .i64 r.att, .string r.s9] 62 (0, 0))
theorem Boxes.step {w0 w w' : World} {t : Tx} {r : Br} (h : Boxes w0 t r w) (hb : Below w.heap.size w w') : Boxes w0 t r w' :=
  ⟨h.below.trans (hb.mono h.below.size), Nat.le_trans h.size hb.size, (hb.block _ (by have := h.size; omega)).trans h.b0, (hb.block _ (by have := h.size; omega)).trans h.b1⟩
theorem Boxes.cells0 {w0 w : World} {t : Tx} {r : Br} (h : Boxes w0 t r w) :
    w.cell? ⟨w0.heap.size, 0, none⟩ = some (.string t.x) ∧ w.cell? ⟨w0.heap.size, 1, none⟩ = some (.string t.st) ∧ w.cell? ⟨w0.heap.size, 2, none⟩ = some (.pointer t.dp) ∧ w.cell? ⟨w0.heap.size, 3, none⟩ = some (.int .i64 t.d1) ∧ w.cell? ⟨w0.heap.size, 4, none⟩ = some (.int .i64 t.d2) ∧
    w.cell? ⟨w0.heap.size, 5, none⟩ = some (.int .i64 t.d3) ∧ w.cell? ⟨w0.heap.size, 6, none⟩ = some (.int .u64 t.seq) ∧ w.cell? ⟨w0.heap.size, 7, none⟩ = some (.slice t.ba t.bl t.bc) ∧ w.cell? ⟨w0.heap.size, 8, none⟩ = some (.bool t.nx) ∧ w.cell? ⟨w0.heap.size, 9, none⟩ = some (.int .i64 t.wt) ∧ w.cell? ⟨w0.heap.size, 10, none⟩ = some (.slice t.ra t.rl t.rc) := by
  have h0 := h.b0
  refine ⟨?_, ?_, ?_, ?_, ?_, ?_, ?_, ?_, ?_, ?_, ?_⟩ <;> simp [World.cell?, h0]
theorem Boxes.cells1 {w0 w : World} {t : Tx} {r : Br} (h : Boxes w0 t r w) :
    w.cell? ⟨w0.heap.size + 1, 0, none⟩ = some (.int .i64 r.id) ∧ w.cell? ⟨w0.heap.size + 1, 1, none⟩ = some (.string r.s1) ∧ w.cell? ⟨w0.heap.size + 1, 2, none⟩ = some (.string r.s2) ∧ w.cell? ⟨w0.heap.size + 1, 3, none⟩ = some (.string r.s3) ∧ w.cell? ⟨w0.heap.size + 1, 4, none⟩ = some (.string r.s4) ∧
    w.cell? ⟨w0.heap.size + 1, 5, none⟩ = some (.slice r.ca r.cl r.cc) ∧ w.cell? ⟨w0.heap.size + 1, 6, none⟩ = some (.string r.s6) ∧ w.cell? ⟨w0.heap.size + 1, 7, none⟩ = some (.string r.s7) ∧ w.cell? ⟨w0.heap.size + 1, 8, none⟩ = some (.int .i64 r.att) ∧ w.cell? ⟨w0.heap.size + 1, 9, none⟩ = some (.string r.s9) := by
  have h1 := h.b1
  refine ⟨?_, ?_, ?_, ?_, ?_, ?_, ?_, ?_, ?_, ?_⟩ <;> simp [World.cell?, h1]
theorem Boxes.made (w0 : World) (t : Tx) (r : Br) : Boxes w0 t r ((w0.alloc (.cells #[.string t.x, .string t.st, .pointer t.dp, .int .i64 t.d1, .int .i64 t.d2, .int .i64 t.d3, .int .u64 t.seq, .slice t.ba t.bl t.bc, .bool t.nx, .int .i64 t.wt, .slice t.ra t.rl t.rc] 50)).alloc (.cells #[.int .i64 r.id, .string r.s1, .string r.s2, .string r.s3, .string r.s4, .slice r.ca r.cl r.cc, .string r.s6, .string r.s7, .int .i64 r.att, .string r.s9] 62)) :=
  ⟨(below1 _ _).alloc (by simp) _, by simp, by
    show ((w0.heap.push _).push _)[_]? = _
    rw [Array.getElem?_push, if_neg (by simp), Array.getElem?_push, if_pos rfl], by
    have := heap_alloc_new (w0.alloc (.cells #[.string t.x, .string t.st, .pointer t.dp, .int .i64 t.d1, .int .i64 t.d2, .int .i64 t.d3, .int .u64 t.seq, .slice t.ba t.bl t.bc, .bool t.nx, .int .i64 t.wt, .slice t.ra t.rl t.rc] 50)) (.cells #[.int .i64 r.id, .string r.s1, .string r.s2, .string r.s3, .string r.s4, .slice r.ca r.cl r.cc, .string r.s6, .string r.s7, .int .i64 r.att, .string r.s9] 62)
    simpa using this⟩
theorem Boxes.grown {w0 w w' : World} {t : Tx} {r : Br} (h : Boxes w0 t r w) {g : Nat} (hb : w.grownBy w' (some g)) (hg : w0.heap.size + 2 ≤ g) : Boxes w0 t r w' :=
  ⟨h.below.grown hb h.below.size (fun k e => by cases e; omega), Nat.le_trans h.size hb.size, (hb.block _ (by have := h.size; omega) (by simp; omega)).trans h.b0, (hb.block _ (by have := h.size; omega) (by simp; omega)).trans h.b1⟩
theorem TxnAt.grown {w w' : World} {b g : Nat} {t : TV} (h : TxnAt w b t) (hb : w.grownBy w' (some g)) (hne : b ≠ g) : TxnAt w' b t := (hb.block b h.lt (by simpa using hne)).trans h
theorem RowAt.grown {w w' : World} {a : Option Addr} {n g : Nat} {f : Nat → Value} (h : RowAt w a n f) (hb : w.grownBy w' (some g)) (hne : ∀ x, a = some x → x.block ≠ g) : RowAt w' a n f := by
  rcases h with h | ⟨b, ha, hlt, hc⟩
  · exact .inl h
  · refine .inr ⟨b, ha, Nat.lt_of_lt_of_le hlt hb.size, fun j hj => ?_⟩
    rw [← hc j hj]
    exact World.cell?_of_block (hb.block b hlt (by simpa using hne _ ha))
end Go.Proofs.Qxb6616291a
