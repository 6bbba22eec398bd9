import Derived.Test.Qxb6616291aHeap
import Derived.Test.Qxb6616291aBytes40
import Derived.LaidEqlPtr
namespace Go.Proofs.Qxb6616291a
open Go.RowKit
set_option maxHeartbeats 4000000
set_option maxRecDepth 100000
attribute [local go_sem] Go.wp_at_zero Go.wp_at_succ
/-- the branches that the law builds: nil as the argument's are, or a row of the law's own -/
def Bs (w0 : World) (t : Tx) (w : World) (ba : Option Addr) (bc : Nat) (f : Nat → Value) (B : Nat → Br) : Prop :=
  (ba = none ∧ t.ba = none ∧ bc = 0 ∧ t.bl = 0) ∨ ∃ gb, ba = some ⟨gb, 0, none⟩ ∧ t.ba.isNone = false ∧ w0.heap.size + 2 ≤ gb ∧ w.rowIs gb 69 (t.bl * 10) f ∧ BranchRow w gb t.bl f B
theorem Bs.below {w0 : World} {t : Tx} {w w' : World} {ba : Option Addr} {bc : Nat} {f : Nat → Value} {B : Nat → Br} (h : Bs w0 t w ba bc f B) (hb : Below w.heap.size w w') : Bs w0 t w' ba bc f B := by
  rcases h with h | ⟨gb, h1, h2, h3, h4, h5⟩
  · exact .inl h
  · exact .inr ⟨gb, h1, h2, h3, h4.of_block (hb.block _ h4.lt), h5.below hb⟩
/-- what a cell holds -/
def cellOf (w : World) (a : Addr) : Value := (w.cell? a).getD undef
theorem cellOf_some {w : World} {a : Addr} {v : Value} (h : w.cell? a = some v) : w.cell? a = some (cellOf w a) := by simp [cellOf, h]
/-- what the loads and the store of one branch want: the branch's ten cells in block nb; ten cells of block gb, from o on, that may be written -/
def HeldS (nb gb o : Nat) (b : Br) (w' : World) : Prop := (w'.cell? ⟨nb, 0, none⟩ = some (.int .i64 b.id) ∧ w'.cell? ⟨nb, 1, none⟩ = some (.string b.s1) ∧ w'.cell? ⟨nb, 2, none⟩ = some (.string b.s2) ∧ w'.cell? ⟨nb, 3, none⟩ = some (.string b.s3) ∧ w'.cell? ⟨nb, 4, none⟩ = some (.string b.s4) ∧ w'.cell? ⟨nb, 5, none⟩ = some (.slice b.ca b.cl b.cc) ∧ w'.cell? ⟨nb, 6, none⟩ = some (.string b.s6) ∧ w'.cell? ⟨nb, 7, none⟩ = some (.string b.s7) ∧ w'.cell? ⟨nb, 8, none⟩ = some (.int .i64 b.att) ∧ w'.cell? ⟨nb, 9, none⟩ = some (.string b.s9)) ∧ (w'.cell? ⟨gb, o, none⟩ = some (cellOf w' ⟨gb, o, none⟩) ∧ w'.cell? ⟨gb, o + 1, none⟩ = some (cellOf w' ⟨gb, o + 1, none⟩) ∧ w'.cell? ⟨gb, o + 2, none⟩ = some (cellOf w' ⟨gb, o + 2, none⟩) ∧ w'.cell? ⟨gb, o + 3, none⟩ = some (cellOf w' ⟨gb, o + 3, none⟩) ∧ w'.cell? ⟨gb, o + 4, none⟩ = some (cellOf w' ⟨gb, o + 4, none⟩) ∧ w'.cell? ⟨gb, o + 5, none⟩ = some (cellOf w' ⟨gb, o + 5, none⟩) ∧ w'.cell? ⟨gb, o + 6, none⟩ = some (cellOf w' ⟨gb, o + 6, none⟩) ∧ w'.cell? ⟨gb, o + 7, none⟩ = some (cellOf w' ⟨gb, o + 7, none⟩) ∧ w'.cell? ⟨gb, o + 8, none⟩ = some (cellOf w' ⟨gb, o + 8, none⟩) ∧ w'.cell? ⟨gb, o + 9, none⟩ = some (cellOf w' ⟨gb, o + 9, none⟩)) ∧ (w'.frozen? ⟨gb, o, none⟩ = false ∧ w'.frozen? ⟨gb, o + 1, none⟩ = false ∧ w'.frozen? ⟨gb, o + 2, none⟩ = false ∧ w'.frozen? ⟨gb, o + 3, none⟩ = false ∧ w'.frozen? ⟨gb, o + 4, none⟩ = false ∧ w'.frozen? ⟨gb, o + 5, none⟩ = false ∧ w'.frozen? ⟨gb, o + 6, none⟩ = false ∧ w'.frozen? ⟨gb, o + 7, none⟩ = false ∧ w'.frozen? ⟨gb, o + 8, none⟩ = false ∧ w'.frozen? ⟨gb, o + 9, none⟩ = false)
theorem HeldS.mk {nb gb o m : Nat} {b : Br} {w : World} {f : Nat → Value} (hp : ∀ j, j < 10 → w.cell? ⟨nb, j, none⟩ = (b.vals)[j]?) (hg : w.rowIs gb 69 m f) (ho : o + 10 ≤ m) : HeldS nb gb o b w := by
  have key : ∀ j, j < m → w.cell? ⟨gb, j, none⟩ = some (cellOf w ⟨gb, j, none⟩) := fun j hj => cellOf_some (hg.cell hj)
  exact ⟨⟨hp 0 (by omega), hp 1 (by omega), hp 2 (by omega), hp 3 (by omega), hp 4 (by omega), hp 5 (by omega), hp 6 (by omega), hp 7 (by omega), hp 8 (by omega), hp 9 (by omega)⟩, ⟨key _ (by omega), key _ (by omega), key _ (by omega), key _ (by omega), key _ (by omega), key _ (by omega), key _ (by omega), key _ (by omega), key _ (by omega), key _ (by omega)⟩, ⟨hg.frozen _, hg.frozen _, hg.frozen _, hg.frozen _, hg.frozen _, hg.frozen _, hg.frozen _, hg.frozen _, hg.frozen _, hg.frozen _⟩⟩
theorem HeldS.step {nb gb o : Nat} {b : Br} {w w' : World} (h : HeldS nb gb o b w) (hn : w'.heap[nb]? = w.heap[nb]?) (hg : w'.heap[gb]? = w.heap[gb]?) : HeldS nb gb o b w' := by
  have e1 : ∀ j, w'.cell? ⟨nb, j, none⟩ = w.cell? ⟨nb, j, none⟩ := fun j => World.cell?_of_block hn
  have e2 : ∀ j, w'.cell? ⟨gb, j, none⟩ = w.cell? ⟨gb, j, none⟩ := fun j => World.cell?_of_block hg
  have e3 : ∀ j, w'.frozen? ⟨gb, j, none⟩ = w.frozen? ⟨gb, j, none⟩ := fun j => World.frozen?_of_block hg
  unfold HeldS cellOf at *
  simp only [e1, e2, e3]
  exact h
theorem HeldS.below {nb gb o : Nat} {b : Br} {w w' : World} (h : HeldS nb gb o b w) (hb : Below w.heap.size w w') (hn : nb < w.heap.size) (hg : gb < w.heap.size) : HeldS nb gb o b w' := h.step (hb.block _ hn) (hb.block _ hg)
theorem HeldS.store {nb gb o m : Nat} {b : Br} {w : World} {f : Nat → Value} (h : HeldS nb gb o b w) (hne : nb ≠ gb) (hr : w.rowIs gb 69 m f) (ho : o + 10 ≤ m) (v0 v1 v2 v3 v4 v5 v6 v7 v8 v9 : Value) : HeldS nb gb o b (set10 w gb o v0 v1 v2 v3 v4 v5 v6 v7 v8 v9) := by
  have hr' := set10_row hr o v0 v1 v2 v3 v4 v5 v6 v7 v8 v9
  refine HeldS.mk (fun j hj => ?_) hr' ho
  have hlt : nb < w.heap.size := by
    have := h.1.1
    exact World.block_lt_of_cell? w _ this
  have hbk := (set10_grown w gb o v0 v1 v2 v3 v4 v5 v6 v7 v8 v9).block nb hlt (by simpa using hne)
  generalize set10 w gb o v0 v1 v2 v3 v4 v5 v6 v7 v8 v9 = w' at hbk ⊢
  have hck : w'.cell? ⟨nb, j, none⟩ = w.cell? ⟨nb, j, none⟩ := World.cell?_of_block (a := ⟨nb, j, none⟩) hbk
  rw [hck]
  obtain ⟨⟨p0, p1, p2, p3, p4, p5, p6, p7, p8, p9⟩, -⟩ := h
  rcases (by omega : j = 0 ∨ j = 1 ∨ j = 2 ∨ j = 3 ∨ j = 4 ∨ j = 5 ∨ j = 6 ∨ j = 7 ∨ j = 8 ∨ j = 9) with rfl | rfl | rfl | rfl | rfl | rfl | rfl | rfl | rfl | rfl
  · exact p0
  · exact p1
  · exact p2
  · exact p3
  · exact p4
  · exact p5
  · exact p6
  · exact p7
  · exact p8
  · exact p9
theorem build_step {w0 W w9 : World} {t : Tx} {r b : Br} {gb k m : Nat} {f : Nat → Value} {B : Nat → Br} {ca : Option Addr} {cc : Nat} (hB : Boxes w0 t r W) (hgb : w0.heap.size + 2 ≤ gb) (hgl : gb < W.heap.size) (hrow : W.rowIs gb 69 m f) (hbr : BranchRow W gb k f B) (hb9 : Below W.heap.size W w9) (hb : B k = b)
    (hca : ca.isNone = b.ca.isNone) (hz : BytesAt w9 ca b.cl b.z) (hg : ∀ x, ca = some x → W.heap.size ≤ x.block) :
    let w' := set10 w9 gb (k * 10) (.int .i64 b.id) (.string b.s1) (.string b.s2) (.string b.s3) (.string b.s4) (.slice ca b.cl cc) (.string b.s6) (.string b.s7) (.int .i64 b.att) (.string b.s9)
    Boxes w0 t r w' ∧ w'.rowIs gb 69 m (put10 f (k * 10) (b.at ca cc)) ∧ BranchRow w' gb (k + 1) (put10 f (k * 10) (b.at ca cc)) B := by
  intro w'
  have hgr : w9.grownBy w' (some gb) := set10_grown _ _ _ _ _ _ _ _ _ _ _ _ _
  refine ⟨(hB.step hb9).grown hgr hgb, set10_row (hrow.of_block (hb9.block _ hgl)) _ _ _ _ _ _ _ _ _ _ _, ?_⟩
  subst hb
  exact ((hbr.below hb9).grown hgr).succ ca cc hca (hz.grown hgr (fun x hx e => by have := hg x hx; omega)) (fun x hx => by have := hg x hx; omega)
theorem Bs.row {w0 : World} {t : Tx} {w : World} {ba : Option Addr} {bc : Nat} {f : Nat → Value} {B : Nat → Br} (h : Bs w0 t w ba bc f B) : RowAt w ba t.bl f ∧ (ba = none → bc = 0) ∧ (∀ j, j < t.bl * 10 → (f j).oneCell' = true) ∧ ba.isNone = t.ba.isNone := by
  rcases h with ⟨rfl, h2, rfl, h4⟩ | ⟨gb, rfl, h2, h3, h4, h5⟩
  · exact ⟨.inl ⟨rfl, h4⟩, fun _ => rfl, fun j hj => by rw [h4] at hj; omega, by rw [h2]⟩
  · exact ⟨RowAt.of_rowIs h4, (fun h => by cases h), h5.one, by rw [h2]; rfl⟩
theorem Try.info104 : (Try.prog.info? 104).map (·.size) = some 20 := by kernel_rfl
theorem eql_txn {w : World} {g g' : Nat} {t t' : TV} (h : TxnAt w g t) (h' : TxnAt w g' t') (hne : g ≠ g') :
    (binOp .eql 27 (.pointer (some ⟨g, 0, none⟩)) (.pointer (some ⟨g', 0, none⟩))).run Try.prog w = .ok (.bool false) w := by
  obtain ⟨j, hj, hs⟩ := Option.map_eq_some_iff.1 Try.info104
  exact run_eql_ptr_other w Try.underlying27 hj (by rw [hs]; decide) (fun e => hne (congrArg Addr.block e)) h h'
/-- a transaction whose branches read as B says -/
def Good (w : World) (g : Nat) (t : Tx) (B : Nat → Br) : Prop :=
  ∃ tv f gb, TxnAt w g tv ∧ tv.x = t.x ∧ tv.bl = t.bl ∧ tv.ba.isNone = t.ba.isNone ∧ RowAt w tv.ba t.bl f ∧ BranchRow w gb t.bl f B
theorem Good.below {w w' : World} {g : Nat} {t : Tx} {B : Nat → Br} (h : Good w g t B) (hb : Below w.heap.size w w') : Good w' g t B := by
  obtain ⟨tv, f, gb, h1, h2, h3, h4, h5, h6⟩ := h
  exact ⟨tv, f, gb, h1.below hb, h2, h3, h4, h5.below hb, h6.below hb⟩
/-- what the branches are behind the write -/
def wrote (t : Tx) (r : Br) (b : Bool) (k : Nat) : Nat → Br := fun i => if b = true ∧ i = k then r else t.B i
theorem Bs.good {w0 : World} {t : Tx} {w : World} {ba p : Option Addr} {bc q g : Nat} {f : Nat → Value} {B : Nat → Br} {tv : TV} (h : Bs w0 t w ba bc f B) (ht : TxnAt w g (tv.copied p q)) (hx : tv.x = t.x) (hl : tv.bl = t.bl) (hn : p.isNone = ba.isNone) (hr : RowAt w p t.bl f) : Good w g t B := by
  have hnn := hn.trans h.row.2.2.2
  rcases h with ⟨rfl, h2, rfl, h4⟩ | ⟨gb, rfl, h2, h3, h4, h5⟩
  · exact ⟨_, f, 0, ht, hx, hl, hnn, hr, by rw [h4]; exact BranchRow.zero _ _ _ _⟩
  · exact ⟨_, f, gb, ht, hx, hl, hnn, hr, h5⟩
/-- what the write does -/
theorem write_step {w0 W w9 : World} {t : Tx} {r : Br} {gb k g1 go : Nat} {f : Nat → Value} {p : Option Addr} {q bc : Nat} {ca : Option Addr} {cc : Nat} {tvo : TV} (hB : Boxes w0 t r W) (hgb : w0.heap.size + 2 ≤ gb) (hrow : W.rowIs gb 69 (t.bl * 10) f) (hbr : BranchRow W gb t.bl f t.B) (hb9 : Below W.heap.size W w9)
    (hca : ca.isNone = r.ca.isNone) (hz : BytesAt w9 ca r.cl r.z) (hg : ∀ x, ca = some x → W.heap.size ≤ x.block) (ho : TxnAt W go tvo) (h1 : TxnAt W g1 (tvo.copied p q)) (hx : tvo.x = t.x) (hl : tvo.bl = t.bl) (hn : p.isNone = t.ba.isNone) (hr : RowAt W p t.bl f) (hp : ∀ x, p = some x → x.block ≠ gb) (hta : t.ba.isNone = false) :
    let w' := set10 w9 gb (k * 10) (.int .i64 r.id) (.string r.s1) (.string r.s2) (.string r.s3) (.string r.s4) (.slice ca r.cl cc) (.string r.s6) (.string r.s7) (.int .i64 r.att) (.string r.s9)
    Boxes w0 t r w' ∧ TxnAt w' go tvo ∧ Bs w0 t w' (some ⟨gb, 0, none⟩) bc (put10 f (k * 10) (r.at ca cc)) (wrote t r true k) ∧ Good w' g1 t t.B := by
  intro w'
  have hgl := hrow.lt
  have hgr : w9.grownBy w' (some gb) := set10_grown _ _ _ _ _ _ _ _ _ _ _ _ _
  have ne : ∀ g tv, TxnAt W g tv → g ≠ gb := fun g tv h e => by
    subst e
    obtain ⟨c, hc, -⟩ := hrow
    unfold TxnAt at h
    rw [hc] at h
    simp at h
  refine ⟨(hB.step hb9).grown hgr hgb, (ho.below hb9).grown hgr (ne _ _ ho), .inr ⟨gb, rfl, hta, hgb, set10_row (hrow.of_block (hb9.block _ hgl)) _ _ _ _ _ _ _ _ _ _ _, ?_⟩, ?_⟩
  · have := ((hbr.below hb9).grown hgr).put (k := k) ca cc hca (hz.grown hgr (fun x hx e => by have := hg x hx; omega)) (fun x hx => by have := hg x hx; omega)
    have e : (fun i => if i = k then r else t.B i) = wrote t r true k := by funext i; simp [wrote]
    rw [← e]
    exact this
  · exact ⟨_, f, gb, (h1.below hb9).grown hgr (ne _ _ h1), hx, hl, hn, (hr.below hb9).grown hgr hp, (hbr.below hb9).grown hgr⟩
/-- what branch i of transaction k of the two must read as -/
def BB (t : Tx) (r : Br) (wb : Bool) (at_ k : Nat) : Nat → Br := fun i => if k = 1 ∧ wb = true ∧ i = at_ then r else t.B i
/-- the slice of the two transactions, and what they read as -/
structure Two (w0 : World) (t : Tx) (r : Br) (wb : Bool) (at_ G : Nat) (w : World) : Prop where
  bx : Boxes w0 t r w
  hG : G < w.heap.size
  each : ∀ k, k < 2 → ∃ g, w.cell? ⟨G, k, none⟩ = some (.pointer (some ⟨g, 0, none⟩)) ∧ Good w g t (BB t r wb at_ k)
theorem Two.below {w0 : World} {t : Tx} {r : Br} {wb : Bool} {at_ G : Nat} {w w' : World} (h : Two w0 t r wb at_ G w) (hb : Below w.heap.size w w') : Two w0 t r wb at_ G w' :=
  ⟨h.bx.step hb, Nat.lt_of_lt_of_le h.hG hb.size, fun k hk => by
    obtain ⟨g, h1, h2⟩ := h.each k hk
    exact ⟨g, (hb.cell (p := ⟨G, k, none⟩) h.hG).trans h1, h2.below hb⟩⟩
/-- the ten cells of one branch of a copy -/
theorem row_ten {w : World} {a : Option Addr} {n gb i : Nat} {f : Nat → Value} {B : Nat → Br} (hr : RowAt w a n f) (hb : BranchRow w gb n f B) (hi : i < n) :
    ∃ b ca cc, a = some ⟨b, 0, none⟩ ∧ b < w.heap.size ∧ w.cell? ⟨b, i * 10, none⟩ = some (.int .i64 (B i).id) ∧ w.cell? ⟨b, i * 10 + 1, none⟩ = some (.string (B i).s1) ∧ w.cell? ⟨b, i * 10 + 2, none⟩ = some (.string (B i).s2) ∧
      w.cell? ⟨b, i * 10 + 3, none⟩ = some (.string (B i).s3) ∧ w.cell? ⟨b, i * 10 + 4, none⟩ = some (.string (B i).s4) ∧ w.cell? ⟨b, i * 10 + 5, none⟩ = some (.slice ca (B i).cl cc) ∧ w.cell? ⟨b, i * 10 + 6, none⟩ = some (.string (B i).s6) ∧
      w.cell? ⟨b, i * 10 + 7, none⟩ = some (.string (B i).s7) ∧ w.cell? ⟨b, i * 10 + 8, none⟩ = some (.int .i64 (B i).att) ∧ w.cell? ⟨b, i * 10 + 9, none⟩ = some (.string (B i).s9) ∧ ca.isNone = (B i).ca.isNone ∧ BytesAt w ca (B i).cl (B i).z := by
  rcases hr with ⟨-, rfl⟩ | ⟨b, ha, hlt, hc⟩
  · omega
  obtain ⟨ca, cc, h1, h2, h3, -⟩ := hb i hi
  have key : ∀ j, j < 10 → w.cell? ⟨b, i * 10 + j, none⟩ = some (((B i).at ca cc)[j]!) := fun j hj => by rw [← h1 j hj]; exact hc _ (by omega)
  exact ⟨b, ca, cc, ha, hlt, key 0 (by omega), key 1 (by omega), key 2 (by omega), key 3 (by omega), key 4 (by omega), key 5 (by omega), key 6 (by omega), key 7 (by omega), key 8 (by omega), key 9 (by omega), h2, h3⟩
theorem BB_ok {t : Tx} {r : Br} {wb : Bool} {at_ k i : Nat} {w : World} (h : t.Ok w) (hr : r.Ok w) (hi : i < t.bl) : (BB t r wb at_ k i).Ok w := by
  unfold BB
  split
  · exact hr
  · obtain ⟨-, -, -, -, -, h⟩ := h.hb i hi
    exact h
theorem BB_len {t : Tx} {r : Br} {wb : Bool} {at_ k i : Nat} (h : ∀ i, i < t.bl → (t.B i).cl ≤ 1048576) (hr : r.cl ≤ 1048576) (hi : i < t.bl) : (BB t r wb at_ k i).cl ≤ 140737488351232 := by
  unfold BB
  split
  · omega
  · have := h i hi; omega
theorem two_made {w0 w16 w17 : World} {t : Tx} {r : Br} {wb : Bool} {at_ g1 g2 : Nat} (hB : Boxes w0 t r w16) (hb : Below w16.heap.size w16 w17) (hrow : w17.rowIs w16.heap.size 27 2 (fun _ => .pointer none)) (h1 : Good w16 g1 t t.B) (h2 : Good w16 g2 t (wrote t r wb at_)) :
    Two w0 t r wb at_ w16.heap.size ((w17.setCell ⟨w16.heap.size, 0, none⟩ (.pointer (some ⟨g1, 0, none⟩))).setCell ⟨w16.heap.size, 1, none⟩ (.pointer (some ⟨g2, 0, none⟩))) := by
  have hb' := (hb.setCell (p := ⟨w16.heap.size, 0, none⟩) (Nat.le_refl _) (.pointer (some ⟨g1, 0, none⟩))).setCell (p := ⟨w16.heap.size, 1, none⟩) (Nat.le_refl _) (.pointer (some ⟨g2, 0, none⟩))
  have hr := (hrow.set 0 (.pointer (some ⟨g1, 0, none⟩))).set 1 (.pointer (some ⟨g2, 0, none⟩))
  refine ⟨hB.step hb', hr.lt, fun k hk => ?_⟩
  rcases (by omega : k = 0 ∨ k = 1) with rfl | rfl
  · refine ⟨g1, by simpa using hr.cell (show 0 < 2 by omega), ?_⟩
    have e : BB t r wb at_ 0 = t.B := by funext i; simp [BB]
    rw [e]
    exact h1.below hb'
  · refine ⟨g2, by simpa using hr.cell (show 1 < 2 by omega), ?_⟩
    have e : BB t r wb at_ 1 = wrote t r wb at_ := by funext i; simp [BB, wrote]
    rw [e]
    exact h2.below hb'
theorem walk6 (t : Tx) (at_ : Int) (r : Br) (w0 : World) (h : t.Ok w0) (hr : r.Ok w0) (hat0 : -9223372036854775808 ≤ at_ ∧ at_ ≤ 9223372036854775807) :
    Calls Try.prog 6 #[t.val, .int .i64 at_, .agg r.vals] w0 (SaysTrue w0) := by
  have hbl := h.hbl
  have hrl := h.hrl
  unfold maxLen at hbl hrl
  have H : Hid (t.Ok w0) := h
  have HR : Hid (r.Ok w0) := hr
  clear h hr
  unfold Tx.val Br.vals
  go_enter Try.func6, Try.ntmps6
  go_wp2_with fail
  have B0 := Boxes.made w0 t r
  refine (zzBytes40_any t at_ r _ (H.out.below B0.below) (HR.out.below B0.below)).mono ?_
  rintro e w1 ⟨⟨b, rfl⟩, hb1⟩
  have B1 := B0.step hb1
  generalize ((w0.alloc _).alloc _) = wx at *
  clear B0 hb1 wx
  have C1 := B1.cells0
  have D1 := B1.cells1
  cases b with
  | false =>
    go_wp2
    go_ret
    exact ⟨rfl, B1.below⟩
  | true =>
    by_cases hlen : 65536 < (t.bl : Int)
    · go_wp2_with fail
      go_ret
      exact ⟨rfl, B1.below⟩
    · go_wp2_with fail
      go_region_held3 (fun w' => (w'.cell? ⟨w0.heap.size, 0, none⟩ = some (.string t.x) ∧ w'.cell? ⟨w0.heap.size, 1, none⟩ = some (.string t.st) ∧ w'.cell? ⟨w0.heap.size, 2, none⟩ = some (.pointer t.dp) ∧ w'.cell? ⟨w0.heap.size, 3, none⟩ = some (.int .i64 t.d1) ∧ w'.cell? ⟨w0.heap.size, 4, none⟩ = some (.int .i64 t.d2) ∧ w'.cell? ⟨w0.heap.size, 5, none⟩ = some (.int .i64 t.d3) ∧ w'.cell? ⟨w0.heap.size, 6, none⟩ = some (.int .u64 t.seq) ∧ w'.cell? ⟨w0.heap.size, 7, none⟩ = some (.slice t.ba t.bl t.bc) ∧ w'.cell? ⟨w0.heap.size, 8, none⟩ = some (.bool t.nx) ∧ w'.cell? ⟨w0.heap.size, 9, none⟩ = some (.int .i64 t.wt) ∧ w'.cell? ⟨w0.heap.size, 10, none⟩ = some (.slice t.ra t.rl t.rc)) ∧ (w'.cell? ⟨w0.heap.size + 1, 0, none⟩ = some (.int .i64 r.id) ∧ w'.cell? ⟨w0.heap.size + 1, 1, none⟩ = some (.string r.s1) ∧ w'.cell? ⟨w0.heap.size + 1, 2, none⟩ = some (.string r.s2) ∧ w'.cell? ⟨w0.heap.size + 1, 3, none⟩ = some (.string r.s3) ∧ w'.cell? ⟨w0.heap.size + 1, 4, none⟩ = some (.string r.s4) ∧ w'.cell? ⟨w0.heap.size + 1, 5, none⟩ = some (.slice r.ca r.cl r.cc) ∧ w'.cell? ⟨w0.heap.size + 1, 6, none⟩ = some (.string r.s6) ∧ w'.cell? ⟨w0.heap.size + 1, 7, none⟩ = some (.string r.s7) ∧ w'.cell? ⟨w0.heap.size + 1, 8, none⟩ = some (.int .i64 r.att) ∧ w'.cell? ⟨w0.heap.size + 1, 9, none⟩ = some (.string r.s9))) (first | exact ⟨C1, D1⟩ | exact ⟨C2, D2⟩ | exact ⟨C3, D3⟩ | go_keep)
        (first | (go_at_call 22; refine (zzTxnBytes_any t _ (H.out.below (by exact B1.below.drew))).mono ?_; rintro e w2 ⟨n2, rfl, hn0, hn1, hn2, hb2⟩; have B2 := B1.step ((Below.refl _ _).drew.trans hb2); have C2 := B2.cells0; have D2 := B2.cells1; have Hn2 : Hid (n2 ≤ 1048576 → (t.rl : Int) ≤ n2 ∧ ∀ i, i < t.bl → ((t.B i).cl : Int) ≤ n2) := hn2; clear hn2) | (go_at_call 41; refine (zzBranchBytes_any r.id r.s1 r.s2 r.s3 r.s4 r.ca r.cl r.cc r.s6 r.s7 r.att r.s9 _ _ (by omega) HR.out.hl HR.out.h1 HR.out.h2 HR.out.h3 HR.out.h4 HR.out.h6 HR.out.h7 HR.out.h9).mono ?_; rintro e w3 ⟨n3, rfl, hm0, hm1, hm2, hb3⟩; have B3 := B2.step hb3; have C3 := B3.cells0; have D3 := B3.cells1))
      rename_i hHeld
      clear hHeld
      by_cases hM : 1048576 < n3
      · go_wp2
        go_ret
        exact ⟨rfl, B3.below⟩
      have hcl : r.cl ≤ 1048576 := by have := hm2 (by omega); omega
      obtain ⟨hrl2, hcl2⟩ := Hn2.out (by have := hm2 (by omega); omega)
      have HL : Hid (∀ i, i < t.bl → (t.B i).cl ≤ 1048576) := fun i hi => by have := hcl2 i hi; have := hm2 (by omega); omega
      have hrl3 : t.rl ≤ 1048576 := by have := hm2 (by omega); omega
      clear hcl2 hrl2 Hn2 hm2 hm0 hm1 hn0 hn1 hb2 hb3 B1 B2 C1 D1 C2 D2
      go_upto_if 53 with (go_at_call 23; refine (noDirection_any _).mono ?_; rintro e w3 ⟨rfl, rfl⟩)
      have hz3 : w0.heap.size < w3.heap.size := by have := B3.size; omega
      go_cut [0, 2, 7] from 36 to 79 (fun _ _ v w => ∃ dp, v = .pointer dp ∧ Boxes w0 t r w)
      case first =>
        cases hdp : t.dp with
        | none =>
          rw [hdp] at C3
          have hpn : (none : Option Addr) = none := rfl
          go_wp2
          go_meet
          case rel => exact ⟨none, rfl, B3⟩
        | some d =>
          obtain ⟨db, dof, rfl, hdlt, e0, e1, e2, e3, e4, d0, d1, d2, d3, d4, -⟩ := (H.out.hd.below B3.below) d hdp
          have k2 := C3.2.2.1
          rw [hdp] at k2
          clear hdp C3 D3
          go_wp2
          go_region_held3 (fun w' => w'.cell? ⟨w0.heap.size, 2, none⟩ = some (.pointer (some ⟨db, dof, none⟩)) ∧ w'.cell? ⟨db, dof, none⟩ = some (.string e0) ∧ w'.cell? ⟨db, dof + 1, none⟩ = some (.string e1) ∧ w'.cell? ⟨db, dof + 2, none⟩ = some (.string e2) ∧ w'.cell? ⟨db, dof + 3, none⟩ = some (.string e3) ∧ w'.cell? ⟨db, dof + 4, none⟩ = some (.string e4)) (go_keep)
            (first | (go_at_call 24; refine (newDirection_any _ _ _ _ _ _).mono ?_; rintro e w4 ⟨rfl, hb4, -⟩; have B4 := B3.step ((Below.refl _ _).drew.trans hb4); have hcc : ∀ b o, b < w3.heap.size → w4.cell? ⟨b, o, none⟩ = w3.cell? ⟨b, o, none⟩ := (fun b o hb => hb4.cell (p := ⟨b, o, none⟩) hb)))
          go_wp2
          go_meet
          case rel => exact ⟨_, rfl, B4⟩
      case rest =>
        obtain ⟨dp, rfl, B4⟩ := hcut
        clear B3 C3 D3 hz3
        have c7 := B4.cells0.2.2.2.2.2.2.2.1
        have hneq := fun (w : World) (a : Option Addr) (n c : Nat) => run_neq_slice_nil_any (P := Try.prog) w 47 62 a n c 0 0 Try.underlying47
        go_upto_if 83 with (go_at_call 25; refine (noBranches_any _).mono ?_; rintro e wc ⟨rfl, rfl⟩)
        go_cut [8] from 80 to 124 (fun v w => ∃ ba bc f, v = .slice ba t.bl bc ∧ Boxes w0 t r w ∧ Bs w0 t w ba bc f t.B)
        case first =>
          cases hba : t.ba with
          | none =>
            obtain ⟨hb0, hc0⟩ := H.out.hbn hba
            rw [hba] at c7
            go_wp2
            go_meet
            case rel => exact ⟨none, 0, fun _ => undef, by rw [hb0], B4, .inl ⟨rfl, hba, rfl, hb0⟩⟩
          | some xa =>
            have Hba : Hid (t.ba = some xa) := hba
            rw [hba] at c7
            clear hba
            have hn : t.bl ≤ 65536 := by omega
            go_wp2_with (go_at_call 26; refine (branchSlice_any t.bl hn _).mono ?_; rintro e w5 ⟨rfl, hb5, hs5, hrow5⟩)
            have B5 := B4.step hb5
            have hgb : w0.heap.size + 2 ≤ wc.heap.size := B4.size
            clear c7 hb5 B4 hs5
            generalize wc.heap.size = gb at *
            go_loopw [9] (fun i wr => ∃ (k : Nat) (f : Nat → Value), k ≤ t.bl ∧ i = .int .i64 k ∧ Boxes w0 t r wr ∧ wr.rowIs gb 69 (t.bl * 10) f ∧ BranchRow wr gb k f t.B) (fun i _ => t.bl - (intOf i).toNat)
            case atStart => exact ⟨0, _, Nat.zero_le _, rfl, B5, hrow5, BranchRow.zero _ _ _ _⟩
            case round =>
              obtain ⟨k, f, hk, rfl, B6, hrow6, hbr6⟩ := hrel
              have c7 := B6.cells0.2.2.2.2.2.2.2.1
              rw [Hba.out] at c7
              by_cases hlt : k < t.bl
              · obtain ⟨b, off, ha, hblt, k0, k1, k2, k3, k4, k5, k6, k7, k8, k9, hok⟩ := (H.out.hb.below B6.below).ten hlt
                obtain rfl : xa = ⟨b, off, none⟩ := by have := Hba.out; rw [ha] at this; simpa using this.symm
                have hcl9 := HL.out k hlt
                have Hok : Hid ((t.B k).Ok wr) := hok
                have Hbr : Hid (BranchRow wr gb k f t.B) := hbr6
                have Hrow : Hid (wr.rowIs gb 69 (t.bl * 10) f) := hrow6
                have hgl := hrow6.lt
                clear ha hok hbr6 hrow6 hrow5 B5
                go_wp2_with fail
                obtain ⟨W, hW⟩ : ∃ W, wr.alloc (.cells (t.B k).vals 62) = W := ⟨_, rfl⟩
                have hW' := hW
                unfold Br.vals at hW'
                rw [hW']
                obtain ⟨nb, hnb⟩ : ∃ nb, wr.heap.size = nb := ⟨_, rfl⟩
                have hBW : Below wr.heap.size wr W := by rw [← hW]; exact below1 _ _
                have hWs : W.heap.size = nb + 1 := by rw [← hW, ← hnb]; simp
                have hrow7 := Hrow.out.of_block (hBW.block _ hgl)
                have S7 : HeldS nb gb (k * 10) (t.B k) W := HeldS.mk (fun j hj => by rw [← hW, ← hnb]; exact World.cell?_alloc_mark wr _ 62 (0, 0) j) hrow7 (by omega)
                have B7 := B6.step hBW
                have Hok7 : Hid ((t.B k).Ok W) := Hok.out.below hBW
                have Hrow7 : Hid (W.rowIs gb 69 (t.bl * 10) f) := hrow7
                have Hbr7 : Hid (BranchRow W gb k f t.B) := Hbr.out.below hBW
                have hgl7 : gb < W.heap.size := by omega
                have hnl7 : nb < W.heap.size := by omega
                have hltI : (k : Int) < (t.bl : Int) := by omega
                have hbx : nb ≠ gb := by omega
                have U7 := S7.step (w' := W.drew) rfl rfl
                have V7 := S7
                unfold HeldS at U7 V7
                rw [hnb]
                clear hW' hWs hnb hW hBW k0 k1 k2 k3 k4 k5 k6 k7 k8 k9 hrow7 hgl c7 B6 Hok Hrow Hbr
                go_region_held3 (fun w' => (w'.cell? ⟨nb, 0, none⟩ = some (.int .i64 (t.B k).id) ∧ w'.cell? ⟨nb, 1, none⟩ = some (.string (t.B k).s1) ∧ w'.cell? ⟨nb, 2, none⟩ = some (.string (t.B k).s2) ∧ w'.cell? ⟨nb, 3, none⟩ = some (.string (t.B k).s3) ∧ w'.cell? ⟨nb, 4, none⟩ = some (.string (t.B k).s4) ∧ w'.cell? ⟨nb, 5, none⟩ = some (.slice (t.B k).ca (t.B k).cl (t.B k).cc) ∧ w'.cell? ⟨nb, 6, none⟩ = some (.string (t.B k).s6) ∧ w'.cell? ⟨nb, 7, none⟩ = some (.string (t.B k).s7) ∧ w'.cell? ⟨nb, 8, none⟩ = some (.int .i64 (t.B k).att) ∧ w'.cell? ⟨nb, 9, none⟩ = some (.string (t.B k).s9)) ∧ (w'.cell? ⟨gb, k * 10, none⟩ = some (cellOf w' ⟨gb, k * 10, none⟩) ∧ w'.cell? ⟨gb, k * 10 + 1, none⟩ = some (cellOf w' ⟨gb, k * 10 + 1, none⟩) ∧ w'.cell? ⟨gb, k * 10 + 2, none⟩ = some (cellOf w' ⟨gb, k * 10 + 2, none⟩) ∧ w'.cell? ⟨gb, k * 10 + 3, none⟩ = some (cellOf w' ⟨gb, k * 10 + 3, none⟩) ∧ w'.cell? ⟨gb, k * 10 + 4, none⟩ = some (cellOf w' ⟨gb, k * 10 + 4, none⟩) ∧ w'.cell? ⟨gb, k * 10 + 5, none⟩ = some (cellOf w' ⟨gb, k * 10 + 5, none⟩) ∧ w'.cell? ⟨gb, k * 10 + 6, none⟩ = some (cellOf w' ⟨gb, k * 10 + 6, none⟩) ∧ w'.cell? ⟨gb, k * 10 + 7, none⟩ = some (cellOf w' ⟨gb, k * 10 + 7, none⟩) ∧ w'.cell? ⟨gb, k * 10 + 8, none⟩ = some (cellOf w' ⟨gb, k * 10 + 8, none⟩) ∧ w'.cell? ⟨gb, k * 10 + 9, none⟩ = some (cellOf w' ⟨gb, k * 10 + 9, none⟩)) ∧ (w'.frozen? ⟨gb, k * 10, none⟩ = false ∧ w'.frozen? ⟨gb, k * 10 + 1, none⟩ = false ∧ w'.frozen? ⟨gb, k * 10 + 2, none⟩ = false ∧ w'.frozen? ⟨gb, k * 10 + 3, none⟩ = false ∧ w'.frozen? ⟨gb, k * 10 + 4, none⟩ = false ∧ w'.frozen? ⟨gb, k * 10 + 5, none⟩ = false ∧ w'.frozen? ⟨gb, k * 10 + 6, none⟩ = false ∧ w'.frozen? ⟨gb, k * 10 + 7, none⟩ = false ∧ w'.frozen? ⟨gb, k * 10 + 8, none⟩ = false ∧ w'.frozen? ⟨gb, k * 10 + 9, none⟩ = false)) (first | with_reducible exact U7 | with_reducible exact U8 | with_reducible exact U9 | with_reducible exact U10 | go_keep)
                  (first | (go_at_call 28; refine (clone_any _ _ _ (t.B k).z _ (by omega) (by exact Hok7.out.hz) Hok7.out.hn).mono ?_; rintro e w8 ⟨ca, cc, rfl, hca, hb8, hz8, hg8⟩; have hb8' : Below W.heap.size W w8 := ((Below.refl _ _).drew.trans hb8); have S8 := S7.below hb8' hnl7 hgl7; have U8 := S8; unfold HeldS at U8; have hgl8 : gb < w8.heap.size := (by have := hb8'.size; omega); have hnl8 : nb < w8.heap.size := (by have := hb8'.size; omega)) | (go_at_call 27; refine (newBranch_any _ _ _ _ _ _ _ _ _ _ _ _ _).mono ?_; rintro e w9 ⟨rfl, hb9⟩; have S9 := S8.below hb9 hnl8 hgl8; have R9 := ((Hrow7.out.of_block (hb8'.block _ hgl7)).of_block (hb9.block _ hgl8)); have U9 := S9; have U10 := S9.store hbx R9 (by omega) (.int .i64 (t.B k).id) (.string (t.B k).s1) (.string (t.B k).s2) (.string (t.B k).s3) (.string (t.B k).s4) (.slice ca (t.B k).cl cc) (.string (t.B k).s6) (.string (t.B k).s7) (.int .i64 (t.B k).att) (.string (t.B k).s9); unfold HeldS at U9 U10; unfold set10 at U10; clear U8))
                rename_i hHeld
                have hb79 : Below W.heap.size W w9 := hb8'.trans (hb9.mono hb8'.size)
                have Hstep : Hid (_ ∧ _ ∧ _) := build_step (cc := cc) B7 hgb hgl7 Hrow7.out Hbr7.out hb79 rfl hca (hz8.below hb9) (by exact hg8)
                clear hHeld U7 V7 U9 U10 S7 S8 S9 R9 hz8 hg8 hca hb8 hb8' hb9 hb79 Hok7 Hrow7 Hbr7 B7
                go_wp2
                go_roundw
                case rel => exact ⟨k + 1, put10 f (k * 10) ((t.B k).at ca cc), by omega, by go_num, Hstep.out.1, Hstep.out.2.1, Hstep.out.2.2⟩
                case measure => simp [intOf]; omega
              · obtain rfl : k = t.bl := by omega
                go_wp2
                go_meet
                case rel => exact ⟨some ⟨gb, 0, none⟩, t.bl, f, rfl, B6, .inr ⟨gb, rfl, by rw [Hba.out]; rfl, hgb, hrow6, hbr6⟩⟩
        case rest =>
          obtain ⟨ba, bc, f, rfl, B5, hbs⟩ := hcut
          clear B4 c7 hneq
          have Hbs : Hid (Bs w0 t wc ba bc f t.B) := hbs
          clear hbs
          have c8 := B5.cells0.2.2.2.2.2.2.2.2.1
          go_upto_if 127 with (go_at_call 29; refine (noTxn_any _).mono ?_; rintro e wc ⟨rfl, rfl⟩)
          go_cut [11] from 125 to 132 (fun v w => ∃ nx, v = .pointer nx ∧ Boxes w0 t r w ∧ Bs w0 t w ba bc f t.B)
          case first =>
            have c0 := B5.cells0.1
            have c6 := B5.cells0.2.2.2.2.2.2.1
            cases hnx : t.nx with
            | false =>
              rw [hnx] at c8
              go_wp2
              go_meet
              case rel => exact ⟨none, rfl, B5, Hbs.out⟩
            | true =>
              rw [hnx] at c8
              clear hnx
              go_wp2_with (go_at_call 10; refine (newTxnXid_any _ _ _).mono ?_; rintro e w6 ⟨rfl, hb6, -⟩)
              go_meet
              case rel => exact ⟨_, rfl, B5.step hb6, Hbs.out.below hb6⟩
          case rest =>
            obtain ⟨nx, rfl, B6, hbs⟩ := hcut
            clear B5 c8 Hbs
            have Hbs : Hid (Bs w0 t wc ba bc f t.B) := hbs
            clear hbs
            obtain ⟨a1, a2, hT1⟩ := ztime_any t.d1 H.out.hd1.1 H.out.hd1.2
            obtain ⟨b1, b2, hT2⟩ := ztime_any t.d2 H.out.hd2.1 H.out.hd2.2
            obtain ⟨c1, c2, hT3⟩ := ztime_any t.d3 H.out.hd3.1 H.out.hd3.2
            have H1 : Hid (∀ w, _) := hT1
            have H2 : Hid (∀ w, _) := hT2
            have H3 : Hid (∀ w, _) := hT3
            clear hT1 hT2 hT3
            have hrl4 : t.rl ≤ 140737488351232 := by omega
            go_wp2
            have X6 := (B6.step (Below.refl wc.heap.size wc).drew).cells0
            go_region_held3 (fun w' => w'.cell? ⟨w0.heap.size, 0, none⟩ = some (.string t.x) ∧ w'.cell? ⟨w0.heap.size, 1, none⟩ = some (.string t.st) ∧ w'.cell? ⟨w0.heap.size, 2, none⟩ = some (.pointer t.dp) ∧ w'.cell? ⟨w0.heap.size, 3, none⟩ = some (.int .i64 t.d1) ∧ w'.cell? ⟨w0.heap.size, 4, none⟩ = some (.int .i64 t.d2) ∧ w'.cell? ⟨w0.heap.size, 5, none⟩ = some (.int .i64 t.d3) ∧ w'.cell? ⟨w0.heap.size, 6, none⟩ = some (.int .u64 t.seq) ∧ w'.cell? ⟨w0.heap.size, 7, none⟩ = some (.slice t.ba t.bl t.bc) ∧ w'.cell? ⟨w0.heap.size, 8, none⟩ = some (.bool t.nx) ∧ w'.cell? ⟨w0.heap.size, 9, none⟩ = some (.int .i64 t.wt) ∧ w'.cell? ⟨w0.heap.size, 10, none⟩ = some (.slice t.ra t.rl t.rc)) (first | with_reducible exact X6 | with_reducible exact X7 | with_reducible exact X8 | with_reducible exact X9 | with_reducible exact X10 | with_reducible exact X11 | go_keep)
              (first | (go_at_call_of 31 (Value.int IntKind.i64 t.d1); refine (H1.out _).mono ?_; rintro e w7 ⟨rfl, hb7⟩; have B7 := B6.step ((Below.refl _ _).drew.trans hb7); have X7 := B7.cells0; clear X6) | (go_at_call_of 31 (Value.int IntKind.i64 t.d2); refine (H2.out _).mono ?_; rintro e w8 ⟨rfl, hb8⟩; have B8 := B7.step hb8; have X8 := B8.cells0; clear X7) | (go_at_call_of 31 (Value.int IntKind.i64 t.d3); refine (H3.out _).mono ?_; rintro e w9 ⟨rfl, hb9⟩; have B9 := B8.step hb9; have X9 := B9.cells0; clear X8) | (go_at_call 28; refine (clone_any _ _ _ t.rz _ hrl4 (H.out.hr.below B9.below) H.out.hrn).mono ?_; rintro e w10 ⟨ra', rc', rfl, -, hb10, -, -⟩; have B10 := B9.step hb10; have X10 := B10.cells0; clear X9) | (go_at_call 30; refine (newTxnFull_any (TV.mk t.x t.st dp ba t.bl bc a1 a2 b1 b2 c1 c2 t.seq nx t.wt ra' t.rl rc') _).mono ?_; rintro e w11 ⟨go, rfl, hgo, hb11, ht11⟩; have B11 := B10.step hb11; have X11 := B11.cells0; clear X10))
            rename_i hHeld
            have hbc11 : Below wc.heap.size wc w11 := ((Below.refl _ _).drew.trans hb7).trans ((hb8.trans ((hb9.trans ((hb10.trans (hb11.mono hb10.size)).mono hb9.size)).mono hb8.size)).mono ((Below.refl _ _).drew.trans hb7).size)
            have Hb11 : Hid (Bs w0 t w11 ba bc f t.B) := Hbs.out.below hbc11
            have hgo' : wc.heap.size ≤ go := by have := (hbc11.size); have h1 := hb7.size; have h2 := hb8.size; have h3 := hb9.size; have h4 := hb10.size; simp at h1; omega
            have Ht11 : Hid (TxnAt w11 go (TV.mk t.x t.st dp ba t.bl bc a1 a2 b1 b2 c1 c2 t.seq nx t.wt ra' t.rl rc')) := ht11
            clear hHeld X11 hb7 hb8 hb9 hb10 hb11 ht11 hbc11 Hbs B6 B7 B8 B9 B10 hgo H1 H2 H3
            have hn : t.bl ≤ 65536 := by omega
            go_wp2_with fail
            refine (zzcopy_any go _ f _ Ht11.out hn Hb11.out.row.1 Hb11.out.row.2.1 Hb11.out.row.2.2.1).mono ?_
            rintro e w12 ⟨g1, p1, q1, rfl, hg1, hb12, ht12, hn12, hz12, hr12, hx12⟩
            have hgo1 : go < w11.heap.size := Ht11.out.lt
            have hp1 := eql_txn ht12 (Ht11.out.below hb12) (show g1 ≠ go by omega)
            have B12 := B11.step hb12
            have Hb12 : Hid (Bs w0 t w12 ba bc f t.B) := Hb11.out.below hb12
            have Ho12 : Hid (TxnAt w12 go _) := Ht11.out.below hb12
            have hgbl : ∀ gb, ba = some ⟨gb, 0, none⟩ → gb < w11.heap.size := fun gb e => by
              rcases Hb11.out with ⟨h1, -⟩ | ⟨g, h1, -, -, h4, -⟩
              · rw [h1] at e; cases e
              · rw [h1] at e; cases e; exact h4.lt
            have Hc12 : Hid (TxnAt w12 g1 _ ∧ p1.isNone = ba.isNone ∧ RowAt w12 p1 t.bl f ∧ (∀ x, p1 = some x → w11.heap.size ≤ x.block) ∧ ∀ gb, ba = some ⟨gb, 0, none⟩ → gb < w11.heap.size) := ⟨ht12, hn12, hr12, hx12, hgbl⟩
            clear ht12 hn12 hz12 hr12 hx12 hb12 Hb11 Ht11 B11 hgbl
            have c7 := B12.cells0.2.2.2.2.2.2.2.1
            go_upto_region 25 with fail
            go_cut [14] from 158 to 174 (fun v w => v = .bool (decide (0 ≤ at_ ∧ at_ < t.bl)) ∧ w12 = w)
            case first =>
              by_cases h0 : 0 ≤ at_
              · by_cases h1 : at_ < t.bl
                · go_wp2
                  go_meet
                  case rel => exact ⟨by rw [decide_eq_true ⟨h0, h1⟩], rfl⟩
                · go_wp2
                  go_meet
                  case rel => exact ⟨by rw [decide_eq_false (fun h => by omega)], rfl⟩
              · have h0d : decide (0 ≤ at_) = false := decide_eq_false h0
                go_wp2
                go_meet
                case rel => exact ⟨by rw [decide_eq_false (fun h => by omega)], rfl⟩
            case rest =>
              obtain ⟨rfl, rfl⟩ := hcut
              clear c7
              obtain ⟨wb, Hwb⟩ : ∃ wb : Bool, Hid (decide (0 ≤ at_ ∧ at_ < t.bl) = wb) := ⟨_, rfl⟩
              rw [Hwb.out]
              go_upto_if 175 with fail
              go_cut [1, 15] from 175 to 202 (fun v _ w => v = .int .i64 at_ ∧ ∃ f', Boxes w0 t r w ∧ TxnAt w go (TV.mk t.x t.st dp ba t.bl bc a1 a2 b1 b2 c1 c2 t.seq nx t.wt ra' t.rl rc') ∧ Bs w0 t w ba bc f' (wrote t r wb at_.toNat) ∧ Good w g1 t t.B)
              case first =>
                cases wb with
                | false =>
                  go_wp2
                  go_meet
                  case rel =>
                    refine ⟨rfl, f, B12, Ho12.out, ?_, Hb12.out.good Hc12.out.1 rfl rfl Hc12.out.2.1 Hc12.out.2.2.1⟩
                    have e : wrote t r false at_.toNat = t.B := by funext i; simp [wrote]
                    rw [e]
                    exact Hb12.out
                | true =>
                  obtain ⟨h0, h1⟩ := of_decide_eq_true Hwb.out
                  obtain ⟨k, rfl⟩ := Int.eq_ofNat_of_zero_le h0
                  rcases Hb12.out with ⟨-, -, -, h4⟩ | ⟨gb, rfl, hta, hgb, hrow, hbr⟩
                  · omega
                  have Hta : Hid (t.ba.isNone = false) := hta
                  have Hrow : Hid (w12.rowIs gb 69 (t.bl * 10) f) := hrow
                  have Hbr : Hid (BranchRow w12 gb t.bl f t.B) := hbr
                  clear hta hbr
                  have hk : k < t.bl := by omega
                  have S7 : HeldS (w0.heap.size + 1) gb (k * 10) r w12 := HeldS.mk (fun j hj => by have := B12.b1; simp only [World.cell?, this]; rfl) hrow (by omega)
                  have hgl7 : gb < w12.heap.size := hrow.lt
                  have hnl7 : w0.heap.size + 1 < w12.heap.size := by have := B12.size; omega
                  have hbx : w0.heap.size + 1 ≠ gb := by omega
                  have hcl4 : r.cl ≤ 140737488351232 := by omega
                  clear hrow
                  go_wp2_with (go_at_call 35; refine (txnBranches_any go _ _ Ho12.out).mono ?_; rintro e w12 ⟨rfl, rfl⟩)
                  have U7 := S7.step (w' := w12.drew) rfl rfl
                  have V7 := S7
                  unfold HeldS at U7 V7
                  go_region_held3 (fun w' => (w'.cell? ⟨w0.heap.size + 1, 0, none⟩ = some (.int .i64 r.id) ∧ w'.cell? ⟨w0.heap.size + 1, 1, none⟩ = some (.string r.s1) ∧ w'.cell? ⟨w0.heap.size + 1, 2, none⟩ = some (.string r.s2) ∧ w'.cell? ⟨w0.heap.size + 1, 3, none⟩ = some (.string r.s3) ∧ w'.cell? ⟨w0.heap.size + 1, 4, none⟩ = some (.string r.s4) ∧ w'.cell? ⟨w0.heap.size + 1, 5, none⟩ = some (.slice r.ca r.cl r.cc) ∧ w'.cell? ⟨w0.heap.size + 1, 6, none⟩ = some (.string r.s6) ∧ w'.cell? ⟨w0.heap.size + 1, 7, none⟩ = some (.string r.s7) ∧ w'.cell? ⟨w0.heap.size + 1, 8, none⟩ = some (.int .i64 r.att) ∧ w'.cell? ⟨w0.heap.size + 1, 9, none⟩ = some (.string r.s9)) ∧ (w'.cell? ⟨gb, k * 10, none⟩ = some (cellOf w' ⟨gb, k * 10, none⟩) ∧ w'.cell? ⟨gb, k * 10 + 1, none⟩ = some (cellOf w' ⟨gb, k * 10 + 1, none⟩) ∧ w'.cell? ⟨gb, k * 10 + 2, none⟩ = some (cellOf w' ⟨gb, k * 10 + 2, none⟩) ∧ w'.cell? ⟨gb, k * 10 + 3, none⟩ = some (cellOf w' ⟨gb, k * 10 + 3, none⟩) ∧ w'.cell? ⟨gb, k * 10 + 4, none⟩ = some (cellOf w' ⟨gb, k * 10 + 4, none⟩) ∧ w'.cell? ⟨gb, k * 10 + 5, none⟩ = some (cellOf w' ⟨gb, k * 10 + 5, none⟩) ∧ w'.cell? ⟨gb, k * 10 + 6, none⟩ = some (cellOf w' ⟨gb, k * 10 + 6, none⟩) ∧ w'.cell? ⟨gb, k * 10 + 7, none⟩ = some (cellOf w' ⟨gb, k * 10 + 7, none⟩) ∧ w'.cell? ⟨gb, k * 10 + 8, none⟩ = some (cellOf w' ⟨gb, k * 10 + 8, none⟩) ∧ w'.cell? ⟨gb, k * 10 + 9, none⟩ = some (cellOf w' ⟨gb, k * 10 + 9, none⟩)) ∧ (w'.frozen? ⟨gb, k * 10, none⟩ = false ∧ w'.frozen? ⟨gb, k * 10 + 1, none⟩ = false ∧ w'.frozen? ⟨gb, k * 10 + 2, none⟩ = false ∧ w'.frozen? ⟨gb, k * 10 + 3, none⟩ = false ∧ w'.frozen? ⟨gb, k * 10 + 4, none⟩ = false ∧ w'.frozen? ⟨gb, k * 10 + 5, none⟩ = false ∧ w'.frozen? ⟨gb, k * 10 + 6, none⟩ = false ∧ w'.frozen? ⟨gb, k * 10 + 7, none⟩ = false ∧ w'.frozen? ⟨gb, k * 10 + 8, none⟩ = false ∧ w'.frozen? ⟨gb, k * 10 + 9, none⟩ = false)) (first | with_reducible exact U7 | with_reducible exact U8 | with_reducible exact U9 | with_reducible exact U10 | go_keep)
                    (first | (go_at_call 28; refine (clone_any _ _ _ r.z _ hcl4 (by exact (HR.out.below B12.below).hz) HR.out.hn).mono ?_; rintro e w8 ⟨ca, cc, rfl, hca, hb8, hz8, hg8⟩; have hb8' : Below w12.heap.size w12 w8 := ((Below.refl _ _).drew.trans hb8); have S8 := S7.below hb8' hnl7 hgl7; have U8 := S8; unfold HeldS at U8; have hgl8 : gb < w8.heap.size := (by have := hb8'.size; omega); have hnl8 : w0.heap.size + 1 < w8.heap.size := (by have := hb8'.size; omega)) | (go_at_call 27; refine (newBranch_any _ _ _ _ _ _ _ _ _ _ _ _ _).mono ?_; rintro e w9 ⟨rfl, hb9⟩; have S9 := S8.below hb9 hnl8 hgl8; have R9 := ((Hrow.out.of_block (hb8'.block _ hgl7)).of_block (hb9.block _ hgl8)); have U9 := S9; have U10 := S9.store hbx R9 (by omega) (.int .i64 r.id) (.string r.s1) (.string r.s2) (.string r.s3) (.string r.s4) (.slice ca r.cl cc) (.string r.s6) (.string r.s7) (.int .i64 r.att) (.string r.s9); unfold HeldS at U9 U10; unfold set10 at U10; clear U8))
                  rename_i hHeld
                  have hb79 : Below w12.heap.size w12 w9 := hb8'.trans (hb9.mono hb8'.size)
                  have Hstep : Hid (_ ∧ _ ∧ _ ∧ _) := write_step (cc := cc) (bc := bc) (k := k) B12 hgb Hrow.out Hbr.out hb79 hca (hz8.below hb9) (by exact hg8) Ho12.out Hc12.out.1 rfl rfl (Hc12.out.2.1.trans Hta.out.symm) Hc12.out.2.2.1 (fun x hx e => by have h1 := Hc12.out.2.2.2.1 x hx; have h2 := Hc12.out.2.2.2.2 gb rfl; omega) Hta.out
                  clear hHeld U7 V7 U9 U10 S7 S8 S9 R9 hz8 hg8 hca hb8 hb8' hb9 hb79 Hrow Hbr B12
                  go_wp2
                  go_meet
                  case rel => exact ⟨rfl, _, Hstep.out.1, Hstep.out.2.1, Hstep.out.2.2.1, Hstep.out.2.2.2⟩
              case rest =>
                obtain ⟨rfl, f', B15, ho15, hbs15, hg15⟩ := hcut
                have Ho15 : Hid (TxnAt wc go _) := ho15
                have Hbs15 : Hid (Bs w0 t wc ba bc f' (wrote t r wb at_.toNat)) := hbs15
                have Hg15 : Hid (Good wc g1 t t.B) := hg15
                clear ho15 hbs15 hg15 B12 Hb12 Ho12 Hc12 hp1
                go_wp2_with fail
                refine (zzcopy_any go _ f' _ Ho15.out hn Hbs15.out.row.1 Hbs15.out.row.2.1 Hbs15.out.row.2.2.1).mono ?_
                rintro e w16 ⟨g2, p2, q2, rfl, hg2, hb16, ht16, hn16, hz16, hr16, hx16⟩
                have B16 := B15.step hb16
                have hgo2 : go < wc.heap.size := Ho15.out.lt
                obtain ⟨tv1, -, -, htv1, -⟩ := Hg15.out
                have hg12 : g1 < wc.heap.size := htv1.lt
                have hp2 := eql_txn ht16 (Ho15.out.below hb16) (show g2 ≠ go by omega)
                have hp3 := eql_txn ht16 (htv1.below hb16) (show g2 ≠ g1 by omega)
                have HG1 : Hid (Good w16 g1 t t.B) := Hg15.out.below hb16
                have HG2 : Hid (Good w16 g2 t (wrote t r wb at_.toNat)) := (Hbs15.out.below hb16).good ht16 rfl rfl hn16 hr16
                clear ht16 hn16 hz16 hr16 hx16 hb16 Ho15 Hbs15 Hg15 htv1 B15 hgo2 hg12 hg2
                go_wp2_with (go_at_call 9; refine (txnSlice_any 2 (by omega) _).mono ?_; rintro e w17 ⟨rfl, hb17, hrow17⟩; have k0 := hrow17.cell (show 0 < 2 by omega); have k1 := hrow17.cell (show 1 < 2 by omega); have f0 := hrow17.frozen 0; have f1 := hrow17.frozen 1)
                have T18 := two_made B16 hb17 hrow17 HG1.out HG2.out
                clear hb17 hrow17 HG1 HG2 k0 k1 f0 f1 hp2 hp3 B16
                generalize (w17.setCell _ _).setCell _ _ = w18 at T18 ⊢
                generalize w16.heap.size = G at T18 ⊢
                have HT18 : Hid (Two w0 t r wb at_.toNat G w18) := T18
                clear T18
                have hat : -9223372036854775808 ≤ at_ ∧ at_ ≤ 9223372036854775807 := hat0
                go_loopw [18] (fun kk wr => ∃ k : Nat, k ≤ 2 ∧ kk = .int .i64 k ∧ Two w0 t r wb at_.toNat G wr) (fun kk _ => 2 - (intOf kk).toNat)
                case atStart => exact ⟨0, by omega, rfl, HT18.out⟩
                case round =>
                  obtain ⟨k, hk, rfl, hT⟩ := hrel
                  clear HT18
                  by_cases hk2 : k < 2
                  · obtain ⟨g, hcg, hgood⟩ := hT.each k hk2
                    obtain ⟨tv, f2, gb2, hta, hxx, hll, hnn, hrr, hbb⟩ := hgood
                    have C0 := hT.bx.cells0
                    have hk2I : (k : Int) < 2 := by omega
                    obtain ⟨wo, rfl⟩ : ∃ wo : World, wo = wr := ⟨_, rfl⟩
                    have HT : Hid (Two w0 t r wb at_.toNat G wo) := hT
                    have Hta : Hid (TxnAt wo g tv) := hta
                    have Hxx : Hid (tv.x = t.x) := hxx
                    have Hll : Hid (tv.bl = t.bl) := hll
                    have Hnn : Hid (tv.ba.isNone = t.ba.isNone) := hnn
                    have Hrr : Hid (RowAt wo tv.ba t.bl f2 ∧ BranchRow wo gb2 t.bl f2 (BB t r wb at_.toNat k)) := ⟨hrr, hbb⟩
                    clear hT hta hxx hll hnn hrr hbb
                    go_wp2_with fail
                    refine (txnState_any g tv _ Hta.out).mono ?_
                    rintro e w20 ⟨rfl, hb20⟩
                    rw [Hxx.out]
                    have HT20 : Hid (Two w0 t r wb at_.toNat G w20) := HT.out.below hb20
                    have Hta20 : Hid (TxnAt w20 g tv) := Hta.out.below hb20
                    have Hrr20 : Hid (RowAt w20 tv.ba t.bl f2 ∧ BranchRow w20 gb2 t.bl f2 (BB t r wb at_.toNat k)) := ⟨Hrr.out.1.below hb20, Hrr.out.2.below hb20⟩
                    have hcg20 : w20.cell? ⟨G, k, none⟩ = some (.pointer (some ⟨g, 0, none⟩)) := (hb20.cell (p := ⟨G, k, none⟩) HT.out.hG).trans hcg
                    have C20 := HT20.out.bx.cells0
                    clear HT Hta Hrr hcg C0 hb20
                    go_wp2_with fail
                    refine (txnBranches_any g tv _ Hta20.out).mono ?_
                    rintro e w20 ⟨rfl, rfl⟩
                    rw [Hll.out]
                    generalize tv.ba = ba2 at *
                    have n58 := fun (w : World) (a : Option Addr) (n c : Nat) => Lib.run_eql_slice_nil (P := Try.prog) w 58 69 a n c 0 0 Try.underlying58
                    have n47 := fun (w : World) (a : Option Addr) (n c : Nat) => Lib.run_eql_slice_nil (P := Try.prog) w 47 62 a n c 0 0 Try.underlying47
                    have hb1 : (ba2.isNone != t.ba.isNone) = false := by rw [Hnn.out]; simp
                    have hb2 : ((t.bl : Int) != (t.bl : Int)) = false := by simp
                    go_wp2
                    clear n58 n47 hb1 hb2 Hta20 hcg20 C20 Hxx Hll Hnn
                    go_loopw [24] (fun ii wr => ∃ i : Nat, i ≤ t.bl ∧ ii = .int .i64 i ∧ Below w20.heap.size w20 wr) (fun ii _ => t.bl - (intOf ii).toNat)
                    case atStart => exact ⟨0, by omega, rfl, Below.refl _ _⟩
                    case round =>
                      obtain ⟨i, hi, rfl, hbi⟩ := hrel
                      by_cases hlt : i < t.bl
                      · have HTi : Hid (Two w0 t r wb at_.toNat G wr) := HT20.out.below hbi
                        have Hri : Hid (RowAt wr ba2 t.bl f2 ∧ BranchRow wr gb2 t.bl f2 (BB t r wb at_.toNat k)) := ⟨Hrr20.out.1.below hbi, Hrr20.out.2.below hbi⟩
                        have c7 := HTi.out.bx.cells0.2.2.2.2.2.2.2.1
                        obtain ⟨b, off, ha, hblt, m0, m1, m2, m3, m4, m5, m6, m7, m8, m9, -⟩ := (H.out.hb.below HTi.out.bx.below).ten hlt
                        rw [ha] at c7
                        clear ha
                        go_upto_region 48 with fail
                        go_cut [281] from 267 to 281 (fun v w => v = .bool (decide (k = 1 ∧ wb = true ∧ i = at_.toNat)) ∧ w = wr.alloc (.cells #[.int .i64 (t.B i).id, .string (t.B i).s1, .string (t.B i).s2, .string (t.B i).s3, .string (t.B i).s4, .slice (t.B i).ca (t.B i).cl (t.B i).cc, .string (t.B i).s6, .string (t.B i).s7, .int .i64 (t.B i).att, .string (t.B i).s9] 62))
                        case first =>
                          clear m0 m1 m2 m3 m4 m5 m6 m7 m8 m9 c7
                          by_cases hk1 : k = 1
                          · subst hk1
                            cases wb with
                            | false =>
                              go_wp2
                              go_meet
                              case rel => exact ⟨by simp, rfl⟩
                            | true =>
                              obtain ⟨h0, h1⟩ := of_decide_eq_true Hwb.out
                              by_cases hia : (i : Int) = at_
                              · have hia' : ((i : Int) == at_) = true := beq_iff_eq.2 hia
                                have Hia : Hid ((i : Int) = at_) := hia
                                clear hia
                                go_wp2
                                go_meet
                                case rel => exact ⟨by have := Hia.out; simp; omega, rfl⟩
                              · have hia' : ((i : Int) == at_) = false := beq_eq_false_iff_ne.2 hia
                                go_wp2
                                go_meet
                                case rel => exact ⟨by simp; omega, rfl⟩
                          · have hk1' : ((k : Int) == 1) = false := beq_eq_false_iff_ne.2 (by omega)
                            go_wp2
                            go_meet
                            case rel => exact ⟨by rw [decide_eq_false (fun h => hk1 h.1)], rfl⟩
                        case rest =>
                          obtain ⟨rfl, rfl⟩ := hcut
                          clear m0 m1 m2 m3 m4 m5 m6 m7 m8 m9 c7
                          obtain ⟨cd, Hcd⟩ : ∃ cd : Bool, Hid (decide (k = 1 ∧ wb = true ∧ i = at_.toNat) = cd) := ⟨_, rfl⟩
                          rw [Hcd.out]
                          have hX : BB t r wb at_.toNat k i = if cd = true then r else t.B i := by
                            unfold BB
                            have := Hcd.out
                            cases cd with
                            | true => rw [if_pos (of_decide_eq_true this)]; rfl
                            | false => rw [if_neg (of_decide_eq_false this)]; rfl
                          have HX : Hid (BB t r wb at_.toNat k i = if cd = true then r else t.B i) := hX
                          clear hX
                          go_upto_if 281 with fail
                          go_cut [] from 282 to 282 (fun w => ∃ X : Br, BB t r wb at_.toNat k i = X ∧ w = wr.alloc (.cells #[.int .i64 X.id, .string X.s1, .string X.s2, .string X.s3, .string X.s4, .slice X.ca X.cl X.cc, .string X.s6, .string X.s7, .int .i64 X.att, .string X.s9] 62))
                          case first =>
                            cases cd with
                            | false =>
                              go_wp2
                              go_meet
                              case rel => exact ⟨t.B i, by rw [HX.out]; rfl, rfl⟩
                            | true =>
                              have D := HTi.out.bx.cells1
                              have hsz := HTi.out.bx.size
                              have hpast : ∀ o j, (wr.alloc o).cell? ⟨w0.heap.size + 1, j, none⟩ = wr.cell? ⟨w0.heap.size + 1, j, none⟩ := fun o j => (below1 wr o).cell (p := ⟨w0.heap.size + 1, j, none⟩) (by show w0.heap.size + 1 < wr.heap.size; omega)
                              go_wp2
                              go_meet
                              case rel => exact ⟨r, by rw [HX.out]; rfl, rfl⟩
                          case rest =>
                            obtain ⟨X, hX, rfl⟩ := hcut
                            have hok : X.Ok wr := by rw [← hX]; exact BB_ok (H.out.below HTi.out.bx.below) (HR.out.below HTi.out.bx.below) hlt
                            have hlen9 : X.cl ≤ 140737488351232 := by rw [← hX]; exact BB_len HL.out hcl hlt
                            obtain ⟨gg, ca, cc, ha, hgl, m0, m1, m2, m3, m4, m5, m6, m7, m8, m9, hcn, hcz⟩ := row_ten Hri.out.1 Hri.out.2 hlt
                            rw [hX] at m0 m1 m2 m3 m4 m5 m6 m7 m8 m9 hcn hcz
                            subst ha
                            have Hok : Hid (X.Ok wr) := hok
                            have Hcz : Hid (ca.isNone = X.ca.isNone ∧ BytesAt wr ca X.cl X.z) := ⟨hcn, hcz⟩
                            have hpast : ∀ o j, (wr.alloc o).cell? ⟨gg, j, none⟩ = wr.cell? ⟨gg, j, none⟩ := fun o j => (below1 wr o).cell (p := ⟨gg, j, none⟩) hgl
                            clear hok hcn hcz hX HX Hcd Hri HTi
                            go_wp2_with fail
                            refine (branchFields_any _ _ _ _ _ _ _ _ _ _ _ _ _).mono ?_
                            rintro e w30 ⟨rfl, hb30⟩
                            have hbw : Below wr.heap.size wr w30 := (below1 _ _).trans (hb30.mono (by simp))
                            have hc30 : ∀ j, w30.cell? ⟨wr.heap.size, j, none⟩ = _ := fun j => hb30.cell (p := ⟨wr.heap.size, j, none⟩) (by simp)
                            have Hz1 : Hid (BytesAt w30 ca X.cl X.z) := Hcz.out.2.below hbw
                            have Hz2 : Hid (BytesAt w30 X.ca X.cl X.z) := Hok.out.hz.below hbw
                            have Hcn : Hid (ca.isNone = X.ca.isNone) := Hcz.out.1
                            clear m0 m1 m2 m3 m4 m5 m6 m7 m8 m9 hpast Hok Hcz hb30
                            go_wp2_with fail
                            refine (sameBranch_true _ _ _ _ _ _ _ _ _ _ _ _ _ _ X.z _ hlen9 Hcn.out Hz1.out Hz2.out).mono ?_
                            rintro e w31 ⟨rfl, hb31⟩
                            have hb31w : Below w20.heap.size w20 w31 := hbi.trans ((hbw.trans (hb31.mono hbw.size)).mono hbi.size)
                            clear hc30 Hz1 Hz2 Hcn hb31 hbw
                            go_wp2
                            go_roundw
                            case rel => exact ⟨i + 1, by omega, by go_num, hb31w⟩
                            case measure => simp [intOf]; omega
                      · obtain rfl : i = t.bl := by omega
                        go_wp2
                        go_roundw
                        case rel => exact ⟨k + 1, by omega, by go_num, HT20.out.below hbi⟩
                        case measure => simp [intOf]; omega
                  · obtain rfl : k = 2 := by omega
                    go_wp2
                    go_ret
                    exact ⟨rfl, hT.bx.below⟩
end Go.Proofs.Qxb6616291a
