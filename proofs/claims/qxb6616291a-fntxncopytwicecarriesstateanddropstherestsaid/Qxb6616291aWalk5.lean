import Derived.Test.Qxb6616291aHeap
import Derived.Test.Qxb6616291aBytes21
import Derived.Test.Qxb6616291aCopy5
import Derived.LaidEqlPtr
import Derived.Laws.StructEq
namespace Go.Proofs.Qxb6616291a
open Go.RowKit
set_option maxHeartbeats 40000000
set_option maxRecDepth 100000
attribute [local go_sem] Go.wp_at_zero Go.wp_at_succ
/-- the box in which the argument lies -/
structure Box (w0 : World) (t : Tx) (w : World) : Prop where
  below : Below w0.heap.size w0 w
  size : w0.heap.size + 1 ≤ w.heap.size
  b0 : w.heap[w0.heap.size]? = some (.cells #[.string t.x, .string t.st, .pointer t.dp, .int .i64 t.d1, .int .i64 t.d2, .int .i64 t.d3, .int .u64 t.seq, .slice t.ba t.bl t.bc, .bool t.nx, .int .i64 t.wt, .slice t.ra t.rl t.rc] 50 (0, 0))
theorem Box.step {w0 w w' : World} {t : Tx} (h : Box w0 t w) (hb : Below w.heap.size w w') : Box w0 t w' :=
  ⟨h.below.trans (hb.mono h.below.size), Nat.le_trans h.size hb.size, (hb.block _ (by have := h.size; omega)).trans h.b0⟩
theorem Box.grown {w0 w w' : World} {t : Tx} (h : Box w0 t w) {g : Nat} (hb : w.grownBy w' (some g)) (hg : w0.heap.size + 1 ≤ g) : Box w0 t w' :=
  ⟨h.below.grown hb h.below.size (fun k e => by cases e; omega), Nat.le_trans h.size hb.size, (hb.block _ (by have := h.size; omega) (by simp; omega)).trans h.b0⟩
theorem Box.cells0 {w0 w : World} {t : Tx} (h : Box w0 t w) :
    w.cell? ⟨w0.heap.size, 0, none⟩ = some (.string t.x) ∧ w.cell? ⟨w0.heap.size, 1, none⟩ = some (.string t.st) ∧ w.cell? ⟨w0.heap.size, 2, none⟩ = some (.pointer t.dp) ∧ w.cell? ⟨w0.heap.size, 3, none⟩ = some (.int .i64 t.d1) ∧ w.cell? ⟨w0.heap.size, 4, none⟩ = some (.int .i64 t.d2) ∧
    w.cell? ⟨w0.heap.size, 5, none⟩ = some (.int .i64 t.d3) ∧ w.cell? ⟨w0.heap.size, 6, none⟩ = some (.int .u64 t.seq) ∧ w.cell? ⟨w0.heap.size, 7, none⟩ = some (.slice t.ba t.bl t.bc) ∧ w.cell? ⟨w0.heap.size, 8, none⟩ = some (.bool t.nx) ∧ w.cell? ⟨w0.heap.size, 9, none⟩ = some (.int .i64 t.wt) ∧ w.cell? ⟨w0.heap.size, 10, none⟩ = some (.slice t.ra t.rl t.rc) := by
  have h0 := h.b0
  refine ⟨?_, ?_, ?_, ?_, ?_, ?_, ?_, ?_, ?_, ?_, ?_⟩ <;> simp [World.cell?, h0]
theorem Box.made (w0 : World) (t : Tx) : Box w0 t (w0.alloc (.cells #[.string t.x, .string t.st, .pointer t.dp, .int .i64 t.d1, .int .i64 t.d2, .int .i64 t.d3, .int .u64 t.seq, .slice t.ba t.bl t.bc, .bool t.nx, .int .i64 t.wt, .slice t.ra t.rl t.rc] 50)) :=
  ⟨below1 _ _, by simp, heap_alloc_new _ _⟩
/-- the branches that the law builds: nil as the argument's are, or a row of the law's own -/
def Bs5 (w0 : World) (t : Tx) (w : World) (ba : Option Addr) (bc : Nat) (f : Nat → Value) : Prop :=
  (ba = none ∧ t.ba = none ∧ bc = 0 ∧ t.bl = 0) ∨ ∃ gb, ba = some ⟨gb, 0, none⟩ ∧ t.ba.isNone = false ∧ w0.heap.size + 1 ≤ gb ∧ w.rowIs gb 69 (t.bl * 10) f ∧ BranchRow w gb t.bl f t.B
theorem Bs5.below {w0 : World} {t : Tx} {w w' : World} {ba : Option Addr} {bc : Nat} {f : Nat → Value} (h : Bs5 w0 t w ba bc f) (hb : Below w.heap.size w w') : Bs5 w0 t w' ba bc f := by
  rcases h with h | ⟨gb, h1, h2, h3, h4, h5⟩
  · exact .inl h
  · exact .inr ⟨gb, h1, h2, h3, h4.of_block (hb.block _ h4.lt), h5.below hb⟩
/-- what a cell holds -/
def cellOf (w : World) (a : Addr) : Value := (w.cell? a).getD undef
theorem cellOf_some {w : World} {a : Addr} {v : Value} (h : w.cell? a = some v) : w.cell? a = some (cellOf w a) := by simp [cellOf, h]
/-- what the loads and the store of one branch want: the branch's ten cells in block nb; ten cells of block gb, from o on, that may be written -/
def HeldS (nb gb o : Nat) (b : Br) (w' : World) : Prop := (w'.cell? ⟨nb, 0, none⟩ = some (.int .i64 b.id) ∧ w'.cell? ⟨nb, 1, none⟩ = some (.string b.s1) ∧ w'.cell? ⟨nb, 2, none⟩ = some (.string b.s2) ∧ w'.cell? ⟨nb, 3, none⟩ = some (.string b.s3) ∧ w'.cell? ⟨nb, 4, none⟩ = some (.string b.s4) ∧ w'.cell? ⟨nb, 5, none⟩ = some (.slice b.ca b.cl b.cc) ∧ w'.cell? ⟨nb, 6, none⟩ = some (.string b.s6) ∧ w'.cell? ⟨nb, 7, none⟩ = some (.string b.s7) ∧ w'.cell? ⟨nb, 8, none⟩ = some (.int .i64 b.att) ∧ w'.cell? ⟨nb, 9, none⟩ = some (.string b.s9)) ∧ (w'.cell? ⟨gb, o, none⟩ = some (cellOf w' ⟨gb, o, none⟩) ∧ w'.cell? ⟨gb, o + 1, none⟩ = some (cellOf w' ⟨gb, o + 1, none⟩) ∧ w'.cell? ⟨gb, o + 2, none⟩ = some (cellOf w' ⟨gb, o + 2, none⟩) ∧ w'.cell? ⟨gb, o + 3, none⟩ = some (cellOf w' ⟨gb, o + 3, none⟩) ∧ w'.cell? ⟨gb, o + 4, none⟩ = some (cellOf w' ⟨gb, o + 4, none⟩) ∧ w'.cell? ⟨gb, o + 5, none⟩ = some (cellOf w' ⟨gb, o + 5, none⟩) ∧ w'.cell? ⟨gb, o + 6, none⟩ = some (cellOf w' ⟨gb, o + 6, none⟩) ∧ w'.cell? ⟨gb, o + 7, none⟩ = some (cellOf w' ⟨gb, o + 7, none⟩) ∧ w'.cell? ⟨gb, o + 8, none⟩ = some (cellOf w' ⟨gb, o + 8, none⟩) ∧ w'.cell? ⟨gb, o + 9, none⟩ = some (cellOf w' ⟨gb, o + 9, none⟩)) ∧ (w'.frozen? ⟨gb, o, none⟩ = false ∧ w'.frozen? ⟨gb, o + 1, none⟩ = false ∧ w'.frozen? ⟨gb, o + 2, none⟩ = false ∧ w'.frozen? ⟨gb, o + 3, none⟩ = false ∧ w'.frozen? ⟨gb, o + 4, none⟩ = false ∧ w'.frozen? ⟨gb, o + 5, none⟩ = false ∧ w'.frozen? ⟨gb, o + 6, none⟩ = false ∧ w'.frozen? ⟨gb, o + 7, none⟩ = false ∧ w'.frozen? ⟨gb, o + 8, none⟩ = false ∧ w'.frozen? ⟨gb, o + 9, none⟩ = false)
theorem HeldS.mk {nb gb o m : Nat} {b : Br} {w : World} {f : Nat → Value} (hp : ∀ j, j < 10 → w.cell? ⟨nb, j, none⟩ = (b.vals)[j]?) (hg : w.rowIs gb 69 m f) (ho : o + 10 ≤ m) : HeldS nb gb o b w := by
  have key : ∀ j, j < m → w.cell? ⟨gb, j, none⟩ = some (cellOf w ⟨gb, j, none⟩) := fun j hj => cellOf_some (hg.cell hj)
  exact ⟨⟨hp 0 (by omega), hp 1 (by omega), hp 2 (by omega), hp 3 (by omega), hp 4 (by omega), hp 5 (by omega), hp 6 (by omega), hp 7 (by omega), hp 8 (by omega), hp 9 (by omega)⟩, ⟨key _ (by omega), key _ (by omega), key _ (by omega), key _ (by omega), key _ (by omega), key _ (by omega), key _ (by omega), key _ (by omega), key _ (by omega), key _ (by omega)⟩, ⟨hg.frozen _, hg.frozen _, hg.frozen _, hg.frozen _, hg.frozen _, hg.frozen _, hg.frozen _, hg.frozen _, hg.frozen _, hg.frozen _⟩⟩
theorem HeldS.step {nb gb o : Nat} {b : Br} {w w' : World} (h : HeldS nb gb o b w) (hn : w'.heap[nb]? = w.heap[nb]?) (hg : w'.heap[gb]? = w.heap[gb]?) : HeldS nb gb o b w' := by
  have e1 : ∀ j, w'.cell? ⟨nb, j, none⟩ = w.cell? ⟨nb, j, none⟩ := fun j => World.cell?_of_block hn
  have e2 : ∀ j, w'.cell? ⟨gb, j, none⟩ = w.cell? ⟨gb, j, none⟩ := fun j => World.cell?_of_block hg
  have e3 : ∀ j, w'.frozen? ⟨gb, j, none⟩ = w.frozen? ⟨gb, j, none⟩ := fun j => World.frozen?_of_block hg
  unfold HeldS cellOf at *
  simp only [e1, e2, e3]
  exact h
theorem HeldS.below {nb gb o : Nat} {b : Br} {w w' : World} (h : HeldS nb gb o b w) (hb : Below w.heap.size w w') (hn : nb < w.heap.size) (hg : gb < w.heap.size) : HeldS nb gb o b w' := h.step (hb.block _ hn) (hb.block _ hg)
theorem HeldS.store {nb gb o m : Nat} {b : Br} {w : World} {f : Nat → Value} (h : HeldS nb gb o b w) (hne : nb ≠ gb) (hr : w.rowIs gb 69 m f) (ho : o + 10 ≤ m) (v0 v1 v2 v3 v4 v5 v6 v7 v8 v9 : Value) : HeldS nb gb o b (set10 w gb o v0 v1 v2 v3 v4 v5 v6 v7 v8 v9) := by
  have hr' := set10_row hr o v0 v1 v2 v3 v4 v5 v6 v7 v8 v9
  refine HeldS.mk (fun j hj => ?_) hr' ho
  have hlt : nb < w.heap.size := by
    have := h.1.1
    exact World.block_lt_of_cell? w _ this
  have hbk := (set10_grown w gb o v0 v1 v2 v3 v4 v5 v6 v7 v8 v9).block nb hlt (by simpa using hne)
  generalize set10 w gb o v0 v1 v2 v3 v4 v5 v6 v7 v8 v9 = w' at hbk ⊢
  have hck : w'.cell? ⟨nb, j, none⟩ = w.cell? ⟨nb, j, none⟩ := World.cell?_of_block (a := ⟨nb, j, none⟩) hbk
  rw [hck]
  obtain ⟨⟨p0, p1, p2, p3, p4, p5, p6, p7, p8, p9⟩, -⟩ := h
  rcases (by omega : j = 0 ∨ j = 1 ∨ j = 2 ∨ j = 3 ∨ j = 4 ∨ j = 5 ∨ j = 6 ∨ j = 7 ∨ j = 8 ∨ j = 9) with rfl | rfl | rfl | rfl | rfl | rfl | rfl | rfl | rfl | rfl
  · exact p0
  · exact p1
  · exact p2
  · exact p3
  · exact p4
  · exact p5
  · exact p6
  · exact p7
  · exact p8
  · exact p9
theorem build_step5 {w0 W w9 : World} {t : Tx} {b : Br} {gb k m : Nat} {f : Nat → Value} {B : Nat → Br} {ca : Option Addr} {cc : Nat} (hB : Box w0 t W) (hgb : w0.heap.size + 1 ≤ gb) (hgl : gb < W.heap.size) (hrow : W.rowIs gb 69 m f) (hbr : BranchRow W gb k f B) (hb9 : Below W.heap.size W w9) (hb : B k = b)
    (hca : ca.isNone = b.ca.isNone) (hz : BytesAt w9 ca b.cl b.z) (hg : ∀ x, ca = some x → W.heap.size ≤ x.block) :
    let w' := set10 w9 gb (k * 10) (.int .i64 b.id) (.string b.s1) (.string b.s2) (.string b.s3) (.string b.s4) (.slice ca b.cl cc) (.string b.s6) (.string b.s7) (.int .i64 b.att) (.string b.s9)
    Box w0 t w' ∧ w'.rowIs gb 69 m (put10 f (k * 10) (b.at ca cc)) ∧ BranchRow w' gb (k + 1) (put10 f (k * 10) (b.at ca cc)) B := by
  intro w'
  have hgr : w9.grownBy w' (some gb) := set10_grown _ _ _ _ _ _ _ _ _ _ _ _ _
  refine ⟨(hB.step hb9).grown hgr hgb, set10_row (hrow.of_block (hb9.block _ hgl)) _ _ _ _ _ _ _ _ _ _ _, ?_⟩
  subst hb
  exact ((hbr.below hb9).grown hgr).succ ca cc hca (hz.grown hgr (fun x hx e => by have := hg x hx; omega)) (fun x hx => by have := hg x hx; omega)
theorem Bs5.row {w0 : World} {t : Tx} {w : World} {ba : Option Addr} {bc : Nat} {f : Nat → Value} (h : Bs5 w0 t w ba bc f) : RowAt w ba t.bl f ∧ (ba = none → bc = 0) ∧ (∀ j, j < t.bl * 10 → (f j).oneCell' = true) ∧ ba.isNone = t.ba.isNone ∧ Row0 w ba ∧ ∃ gb, BranchRow w gb t.bl f t.B := by
  rcases h with ⟨rfl, h2, rfl, h4⟩ | ⟨gb, rfl, h2, h3, h4, h5⟩
  · exact ⟨.inl ⟨rfl, h4⟩, fun _ => rfl, fun j hj => by rw [h4] at hj; omega, by rw [h2], .inl rfl, 0, by rw [h4]; exact BranchRow.zero _ _ _ _⟩
  · obtain ⟨c, hc, -⟩ := id h4
    exact ⟨RowAt.of_rowIs h4, (fun h => by cases h), h5.one, by rw [h2]; rfl, .inr ⟨gb, c, rfl, hc⟩, gb, h5⟩
theorem Try.info104 : (Try.prog.info? 104).map (·.size) = some 20 := by kernel_rfl
theorem eql_txn {w : World} {g g' : Nat} {t t' : TV} (h : TxnAt w g t) (h' : TxnAt w g' t') (hne : g ≠ g') :
    (binOp .eql 27 (.pointer (some ⟨g, 0, none⟩)) (.pointer (some ⟨g', 0, none⟩))).run Try.prog w = .ok (.bool false) w := by
  obtain ⟨j, hj, hs⟩ := Option.map_eq_some_iff.1 Try.info104
  exact run_eql_ptr_other w Try.underlying27 hj (by rw [hs]; decide) (fun e => hne (congrArg Addr.block e)) h h'
/-- the ten cells of one branch of a copy -/
theorem row_ten {w : World} {a : Option Addr} {n gb i : Nat} {f : Nat → Value} {B : Nat → Br} (hr : RowAt w a n f) (hb : BranchRow w gb n f B) (hi : i < n) :
    ∃ b ca cc, a = some ⟨b, 0, none⟩ ∧ b < w.heap.size ∧ w.cell? ⟨b, i * 10, none⟩ = some (.int .i64 (B i).id) ∧ w.cell? ⟨b, i * 10 + 1, none⟩ = some (.string (B i).s1) ∧ w.cell? ⟨b, i * 10 + 2, none⟩ = some (.string (B i).s2) ∧
      w.cell? ⟨b, i * 10 + 3, none⟩ = some (.string (B i).s3) ∧ w.cell? ⟨b, i * 10 + 4, none⟩ = some (.string (B i).s4) ∧ w.cell? ⟨b, i * 10 + 5, none⟩ = some (.slice ca (B i).cl cc) ∧ w.cell? ⟨b, i * 10 + 6, none⟩ = some (.string (B i).s6) ∧
      w.cell? ⟨b, i * 10 + 7, none⟩ = some (.string (B i).s7) ∧ w.cell? ⟨b, i * 10 + 8, none⟩ = some (.int .i64 (B i).att) ∧ w.cell? ⟨b, i * 10 + 9, none⟩ = some (.string (B i).s9) ∧ ca.isNone = (B i).ca.isNone ∧ BytesAt w ca (B i).cl (B i).z := by
  rcases hr with ⟨-, rfl⟩ | ⟨b, ha, hlt, hc⟩
  · omega
  obtain ⟨ca, cc, h1, h2, h3, -⟩ := hb i hi
  have key : ∀ j, j < 10 → w.cell? ⟨b, i * 10 + j, none⟩ = some (((B i).at ca cc)[j]!) := fun j hj => by rw [← h1 j hj]; exact hc _ (by omega)
  exact ⟨b, ca, cc, ha, hlt, key 0 (by omega), key 1 (by omega), key 2 (by omega), key 3 (by omega), key 4 (by omega), key 5 (by omega), key 6 (by omega), key 7 (by omega), key 8 (by omega), key 9 (by omega), h2, h3⟩
theorem neq_ptr_same {P : Program} (w : World) {tp te : TypeId} {j : TypeInfo} (p : Option Addr) (hp : P.underlying tp = some (.pointer te)) (hte : P.info? te = some j) :
    (binOp .neq tp (.pointer p) (.pointer p)).run P w = .ok (.bool false) w := by
  have h : ∀ d : Nat, (Op.equalIn (d + 1) tp (.pointer p) (.pointer p)).run P w = .ok true w := fun d => by
    cases p with
    | none => simp [Op.equalIn, run_underlying hp]
    | some a => simp [Op.equalIn, run_underlying hp, sizeOf, typeInfo, hte, run_sameAddr_same]
  simp only [binOp]
  simp [Op.equal, Op.maxDepth, h 9999]
theorem neq27 (w : World) (p : Option Addr) : (binOp .neq 27 (.pointer p) (.pointer p)).run Try.prog w = .ok (.bool false) w := by
  obtain ⟨j, hj, -⟩ := Option.map_eq_some_iff.1 (show (Try.prog.info? 104).map (·.size) = some 20 by kernel_rfl)
  exact neq_ptr_same w p Try.underlying27 hj
theorem neq53 (w : World) (p : Option Addr) : (binOp .neq 53 (.pointer p) (.pointer p)).run Try.prog w = .ok (.bool false) w := by
  obtain ⟨j, hj, -⟩ := Option.map_eq_some_iff.1 (show (Try.prog.info? 112).map (·.size) = some 6 by kernel_rfl)
  exact neq_ptr_same w p Try.underlying53 hj
theorem fields76 (w : World) (d : Nat) (a b : Int) : (Op.eqFields (d + 1) #[.int .u64 a, .int .i64 b, .pointer none] #[.int .u64 a, .int .i64 b, .pointer none] [⟨"wall", 30, 0, false, "", "time", 0⟩, ⟨"ext", 2, 1, false, "", "time", 8⟩, ⟨"loc", 74, 2, false, "", "time", 16⟩]).run Try.prog w = .ok true w := by
  have hp74 : Try.prog.underlying 74 = some (.pointer (Try.prog.pointee 74)) := by kernel_rfl
  have e3 := run_equalIn_pointer_nil (P := Try.prog) w d 74 none hp74
  simp [Op.eqFields, go_sem, e3]
theorem neq76 (w : World) (a b : Int) : (binOp .neq 76 (.agg #[.int .u64 a, .int .i64 b, .pointer none]) (.agg #[.int .u64 a, .int .i64 b, .pointer none])).run Try.prog w = .ok (.bool false) w := by
  have hu : Try.prog.underlying 76 = some (.struct (Try.prog.fieldsOf 76)) := by kernel_rfl
  have hp : Try.prog.stoodInHeld 76 = false := by kernel_rfl
  rw [run_neq_struct, run_equalIn_agg w 9999 76 _ _ hu hp]
  have hf : (Try.prog.fieldsOf 76).toList = [⟨"wall", 30, 0, false, "", "time", 0⟩, ⟨"ext", 2, 1, false, "", "time", 8⟩, ⟨"loc", 74, 2, false, "", "time", 16⟩] := by kernel_rfl
  rw [hf, fields76 w 9998 a b]
  rfl
theorem alloc3_heap (w : World) (o1 o2 o3 : Obj) : (((w.alloc o1).alloc o2).alloc o3).heap[w.heap.size]? = some o1 ∧ (((w.alloc o1).alloc o2).alloc o3).heap[w.heap.size + 1]? = some o2 ∧ (((w.alloc o1).alloc o2).alloc o3).heap[w.heap.size + 1 + 1]? = some o3 := by
  have e : (((w.alloc o1).alloc o2).alloc o3).heap = ((w.heap.push o1).push o2).push o3 := rfl
  rw [e]
  refine ⟨?_, ?_, ?_⟩
  · rw [Array.getElem?_push, if_neg (by simp; omega), Array.getElem?_push, if_neg (by simp), Array.getElem?_push, if_pos rfl]
  · rw [Array.getElem?_push, if_neg (by simp), Array.getElem?_push, if_pos (by simp)]
  · rw [Array.getElem?_push, if_pos (by simp)]
/-- what the loads of the times' test read -/
def TimesS (N n0 : Nat) (d1 d2 d3 a1 a2 b1 b2 c1 c2 : Int) (w' : World) : Prop := w'.cell? ⟨N, 0, none⟩ = some (.int .u64 a1) ∧ w'.cell? ⟨N, 1, none⟩ = some (.int .i64 a2) ∧ w'.cell? ⟨N, 2, none⟩ = some (.pointer none) ∧ w'.cell? ⟨N + 1, 0, none⟩ = some (.int .u64 b1) ∧ w'.cell? ⟨N + 1, 1, none⟩ = some (.int .i64 b2) ∧ w'.cell? ⟨N + 1, 2, none⟩ = some (.pointer none) ∧ w'.cell? ⟨N + 1 + 1, 0, none⟩ = some (.int .u64 c1) ∧ w'.cell? ⟨N + 1 + 1, 1, none⟩ = some (.int .i64 c2) ∧ w'.cell? ⟨N + 1 + 1, 2, none⟩ = some (.pointer none) ∧ w'.cell? ⟨n0, 3, none⟩ = some (.int .i64 d1) ∧ w'.cell? ⟨n0, 4, none⟩ = some (.int .i64 d2) ∧ w'.cell? ⟨n0, 5, none⟩ = some (.int .i64 d3)
theorem TimesS.below {N n0 : Nat} {d1 d2 d3 a1 a2 b1 b2 c1 c2 : Int} {w w' : World} (h : TimesS N n0 d1 d2 d3 a1 a2 b1 b2 c1 c2 w) (hb : Below w.heap.size w w') (hN : N + 1 + 1 < w.heap.size) (h0 : n0 < w.heap.size) : TimesS N n0 d1 d2 d3 a1 a2 b1 b2 c1 c2 w' := by
  have e1 : ∀ j, w'.cell? ⟨N, j, none⟩ = w.cell? ⟨N, j, none⟩ := fun j => hb.cell (p := ⟨N, j, none⟩) (by show N < _; omega)
  have e2 : ∀ j, w'.cell? ⟨N + 1, j, none⟩ = w.cell? ⟨N + 1, j, none⟩ := fun j => hb.cell (p := ⟨N + 1, j, none⟩) (by show N + 1 < _; omega)
  have e3 : ∀ j, w'.cell? ⟨N + 1 + 1, j, none⟩ = w.cell? ⟨N + 1 + 1, j, none⟩ := fun j => hb.cell (p := ⟨N + 1 + 1, j, none⟩) hN
  have e4 : ∀ j, w'.cell? ⟨n0, j, none⟩ = w.cell? ⟨n0, j, none⟩ := fun j => hb.cell (p := ⟨n0, j, none⟩) h0
  unfold TimesS at *
  simp only [e1, e2, e3, e4]
  exact h
/-- transaction k of the three reads as the law says -/
def Ek (t : Tx) (dp nx : Option Addr) (a1 a2 b1 b2 c1 c2 : Int) (k : Nat) (w : World) (g : Nat) : Prop :=
  ∃ ba bc n wt ra rl rc f gb, TxnAt w g (TV.mk t.x t.st dp ba t.bl bc a1 a2 b1 b2 c1 c2 t.seq n wt ra rl rc) ∧ ba.isNone = t.ba.isNone ∧ RowAt w ba t.bl f ∧ BranchRow w gb t.bl f t.B ∧
    (k = 0 → n = nx ∧ wt = t.wt ∧ rl = t.rl ∧ ra.isNone = t.ra.isNone ∧ BytesAt w ra t.rl t.rz) ∧ (k ≠ 0 → n = none ∧ wt = 0 ∧ ra = none ∧ rl = 0 ∧ rc = 0)
theorem Ek.below {t : Tx} {dp nx : Option Addr} {a1 a2 b1 b2 c1 c2 : Int} {k : Nat} {w w' : World} {g : Nat} (h : Ek t dp nx a1 a2 b1 b2 c1 c2 k w g) (hb : Below w.heap.size w w') : Ek t dp nx a1 a2 b1 b2 c1 c2 k w' g := by
  obtain ⟨ba, bc, n, wt, ra, rl, rc, f, gb, h1, h2, h3, h4, h5, h6⟩ := h
  exact ⟨ba, bc, n, wt, ra, rl, rc, f, gb, h1.below hb, h2, h3.below hb, h4.below hb, fun e => ⟨(h5 e).1, (h5 e).2.1, (h5 e).2.2.1, (h5 e).2.2.2.1, (h5 e).2.2.2.2.below hb⟩, h6⟩
/-- the slice of the three -/
structure Three (w0 : World) (t : Tx) (dp nx : Option Addr) (a1 a2 b1 b2 c1 c2 : Int) (G : Nat) (w : World) : Prop where
  bx : Box w0 t w
  hG : G < w.heap.size
  each : ∀ k, k < 3 → ∃ g, w.cell? ⟨G, k, none⟩ = some (.pointer (some ⟨g, 0, none⟩)) ∧ Ek t dp nx a1 a2 b1 b2 c1 c2 k w g
theorem Three.below {w0 : World} {t : Tx} {dp nx : Option Addr} {a1 a2 b1 b2 c1 c2 : Int} {G : Nat} {w w' : World} (h : Three w0 t dp nx a1 a2 b1 b2 c1 c2 G w) (hb : Below w.heap.size w w') : Three w0 t dp nx a1 a2 b1 b2 c1 c2 G w' :=
  ⟨h.bx.step hb, Nat.lt_of_lt_of_le h.hG hb.size, fun k hk => by
    obtain ⟨g, h1, h2⟩ := h.each k hk
    exact ⟨g, (hb.cell (p := ⟨G, k, none⟩) h.hG).trans h1, h2.below hb⟩⟩
theorem three_made {w0 w16 w17 : World} {t : Tx} {dp nx : Option Addr} {a1 a2 b1 b2 c1 c2 : Int} {go g1 g2 : Nat} (hB : Box w0 t w16) (hb : Below w16.heap.size w16 w17) (hrow : w17.rowIs w16.heap.size 27 3 (fun _ => .pointer none))
    (h0 : Ek t dp nx a1 a2 b1 b2 c1 c2 0 w16 go) (h1 : Ek t dp nx a1 a2 b1 b2 c1 c2 1 w16 g1) (h2 : Ek t dp nx a1 a2 b1 b2 c1 c2 2 w16 g2) :
    Three w0 t dp nx a1 a2 b1 b2 c1 c2 w16.heap.size (((w17.setCell ⟨w16.heap.size, 0, none⟩ (.pointer (some ⟨go, 0, none⟩))).setCell ⟨w16.heap.size, 1, none⟩ (.pointer (some ⟨g1, 0, none⟩))).setCell ⟨w16.heap.size, 2, none⟩ (.pointer (some ⟨g2, 0, none⟩))) ∧
    Below w16.heap.size w16 (((w17.setCell ⟨w16.heap.size, 0, none⟩ (.pointer (some ⟨go, 0, none⟩))).setCell ⟨w16.heap.size, 1, none⟩ (.pointer (some ⟨g1, 0, none⟩))).setCell ⟨w16.heap.size, 2, none⟩ (.pointer (some ⟨g2, 0, none⟩))) := by
  have hb' := ((hb.setCell (p := ⟨w16.heap.size, 0, none⟩) (Nat.le_refl _) (.pointer (some ⟨go, 0, none⟩))).setCell (p := ⟨w16.heap.size, 1, none⟩) (Nat.le_refl _) (.pointer (some ⟨g1, 0, none⟩))).setCell (p := ⟨w16.heap.size, 2, none⟩) (Nat.le_refl _) (.pointer (some ⟨g2, 0, none⟩))
  have hr := ((hrow.set 0 (.pointer (some ⟨go, 0, none⟩))).set 1 (.pointer (some ⟨g1, 0, none⟩))).set 2 (.pointer (some ⟨g2, 0, none⟩))
  refine ⟨⟨hB.step hb', hr.lt, fun k hk => ?_⟩, hb'⟩
  rcases (by omega : k = 0 ∨ k = 1 ∨ k = 2) with rfl | rfl | rfl
  · exact ⟨go, by simpa using hr.cell (show 0 < 3 by omega), h0.below hb'⟩
  · exact ⟨g1, by simpa using hr.cell (show 1 < 3 by omega), h1.below hb'⟩
  · exact ⟨g2, by simpa using hr.cell (show 2 < 3 by omega), h2.below hb'⟩
/-- the three transactions' branches lie in three blocks -/
theorem apart3 {w11 w12 w16 : World} {n : Nat} {ba p1 p2 : Option Addr} {f : Nat → Value} (hn : 0 < n) (r0 : RowAt w11 ba n f) (o0 : Row0 w11 ba) (b12 : Below w11.heap.size w11 w12) (r1 : RowAt w12 p1 n f) (o1 : Row0 w12 p1) (x1 : ∀ x, p1 = some x → w11.heap.size ≤ x.block)
    (b16 : Below w12.heap.size w12 w16) (r2 : RowAt w16 p2 n f) (o2 : Row0 w16 p2) (x2 : ∀ x, p2 = some x → w12.heap.size ≤ x.block) :
    ∃ x y z cx cy cz, ba = some ⟨x, 0, none⟩ ∧ p1 = some ⟨y, 0, none⟩ ∧ p2 = some ⟨z, 0, none⟩ ∧ w16.heap[x]? = some (.cells cx 69 (0, 0)) ∧ w16.heap[y]? = some (.cells cy 69 (0, 0)) ∧ w16.heap[z]? = some (.cells cz 69 (0, 0)) ∧ x ≠ y ∧ y ≠ z ∧ x ≠ z := by
  have some_of : ∀ {w : World} {a : Option Addr}, RowAt w a n f → Row0 w a → ∃ x c, a = some ⟨x, 0, none⟩ ∧ w.heap[x]? = some (.cells c 69 (0, 0)) := fun {w a} r o => by
    rcases o with rfl | h
    · rcases r with ⟨-, h⟩ | ⟨b, h, -⟩
      · omega
      · cases h
    · exact h
  obtain ⟨x, cx, rfl, hx⟩ := some_of r0 o0
  obtain ⟨y, cy, rfl, hy⟩ := some_of r1 o1
  obtain ⟨z, cz, rfl, hz⟩ := some_of r2 o2
  have lx := (Array.getElem?_eq_some_iff.1 hx).1
  have ly := (Array.getElem?_eq_some_iff.1 hy).1
  have gy := x1 _ rfl
  have gz := x2 _ rfl
  simp only at gy gz
  have s := b12.size
  exact ⟨x, y, z, cx, cy, cz, rfl, rfl, rfl, (b16.block x (by omega)).trans ((b12.block x lx).trans hx), (b16.block y ly).trans hy, hz, by omega, by omega, by omega⟩
theorem eql_row {w : World} {x y : Nat} {cx cy : Array Value} (hx : w.heap[x]? = some (.cells cx 69 (0, 0))) (hy : w.heap[y]? = some (.cells cy 69 (0, 0))) (hne : x ≠ y) (n : Nat) :
    (binOp .eql 91 (.pointer (some ⟨x, 0, none⟩)) (.pointer (some ⟨y, 0, none⟩))).run Try.prog (w.drewN n) = .ok (.bool false) (w.drewN n) := by
  obtain ⟨j, hj, hs⟩ := Option.map_eq_some_iff.1 (show (Try.prog.info? 69).map (·.size) = some 10 by kernel_rfl)
  exact run_eql_ptr_other (w.drewN n) Try.underlying91 hj (by rw [hs]; decide) (fun e => hne (congrArg Addr.block e)) hx hy
theorem walk5 (t : Tx) (w0 : World) (h : t.Ok w0) :
    Calls Try.prog 5 #[t.val] w0 (SaysTrue w0) := by
  have hbl := h.hbl
  have hrl := h.hrl
  unfold maxLen at hbl hrl
  have H : Hid (t.Ok w0) := h
  clear h
  unfold Tx.val
  go_enter Try.func5, Try.ntmps5
  go_wp2_with fail
  have B0 := Box.made w0 t
  refine (zzBytes21_any t _ (H.out.below B0.below)).mono ?_
  rintro e w1 ⟨⟨b, rfl⟩, hb1⟩
  have B1 := B0.step hb1
  generalize (w0.alloc _) = wx at *
  clear B0 hb1 wx
  have C1 := B1.cells0
  cases b with
  | false =>
    go_wp2
    go_ret
    exact ⟨rfl, B1.below⟩
  | true =>
    by_cases hlen : 65536 < (t.bl : Int)
    · go_wp2_with fail
      go_ret
      exact ⟨rfl, B1.below⟩
    · go_wp2_with fail
      refine (zzTxnBytes_any t _ (H.out.below B1.below)).mono ?_
      rintro e w3 ⟨n3, rfl, hn0, hn1, hn2, hb2⟩
      have B3 := B1.step hb2
      have Hn2 : Hid (n3 ≤ 1048576 → (t.rl : Int) ≤ n3 ∧ ∀ i, i < t.bl → ((t.B i).cl : Int) ≤ n3) := hn2
      clear hn2 C1 B1 hb2
      by_cases hM : 1048576 < n3
      · go_wp2
        go_ret
        exact ⟨rfl, B3.below⟩
      obtain ⟨hrl2, hcl2⟩ := Hn2.out (by omega)
      have HL : Hid (∀ i, i < t.bl → (t.B i).cl ≤ 1048576) := fun i hi => by have := hcl2 i hi; omega
      have hrl3 : t.rl ≤ 1048576 := by omega
      clear hcl2 hrl2 Hn2 hn0 hn1
      have C3 := B3.cells0
      go_upto_if 52 with (go_at_call 23; refine (noDirection_any _).mono ?_; rintro e w3 ⟨rfl, rfl⟩)
      have hz3 : w0.heap.size < w3.heap.size := by have := B3.size; omega
      go_cut [0, 3] from 39 to 78 (fun _ v w => ∃ dp, v = .pointer dp ∧ Box w0 t w)
      case first =>
        as_aux_lemma =>
          cases hdp : t.dp with
          | none =>
            rw [hdp] at C3
            have hpn : (none : Option Addr) = none := rfl
            go_wp2
            go_meet
            case rel => exact ⟨none, rfl, B3⟩
          | some d =>
            obtain ⟨db, dof, rfl, hdlt, e0, e1, e2, e3, e4, d0, d1, d2, d3, d4, -⟩ := (H.out.hd.below B3.below) d hdp
            have k2 := C3.2.2.1
            rw [hdp] at k2
            clear hdp C3
            go_wp2
            go_region_held3 (fun w' => w'.cell? ⟨w0.heap.size, 2, none⟩ = some (.pointer (some ⟨db, dof, none⟩)) ∧ w'.cell? ⟨db, dof, none⟩ = some (.string e0) ∧ w'.cell? ⟨db, dof + 1, none⟩ = some (.string e1) ∧ w'.cell? ⟨db, dof + 2, none⟩ = some (.string e2) ∧ w'.cell? ⟨db, dof + 3, none⟩ = some (.string e3) ∧ w'.cell? ⟨db, dof + 4, none⟩ = some (.string e4)) (go_keep)
              (first | (go_at_call 24; refine (newDirection_any _ _ _ _ _ _).mono ?_; rintro e w4 ⟨rfl, hb4, -⟩; have B4 := B3.step ((Below.refl _ _).drew.trans hb4); have hcc : ∀ b o, b < w3.heap.size → w4.cell? ⟨b, o, none⟩ = w3.cell? ⟨b, o, none⟩ := (fun b o hb => hb4.cell (p := ⟨b, o, none⟩) hb)))
            go_wp2
            go_meet
            case rel => exact ⟨_, rfl, B4⟩
      case rest =>
        obtain ⟨dp, rfl, B4⟩ := hcut
        clear B3 C3 hz3
        have c7 := B4.cells0.2.2.2.2.2.2.2.1
        have hneq := fun (w : World) (a : Option Addr) (n c : Nat) => run_neq_slice_nil_any (P := Try.prog) w 47 62 a n c 0 0 Try.underlying47
        go_upto_if 82 with (go_at_call 25; refine (noBranches_any _).mono ?_; rintro e wc ⟨rfl, rfl⟩)
        go_cut [4] from 79 to 123 (fun v w => ∃ ba bc f, v = .slice ba t.bl bc ∧ Box w0 t w ∧ Bs5 w0 t w ba bc f)
        case first =>
          focus
            cases hba : t.ba with
            | none =>
              obtain ⟨hb0, hc0⟩ := H.out.hbn hba
              rw [hba] at c7
              go_wp2
              go_meet
              case rel => exact ⟨none, 0, fun _ => undef, by rw [hb0], B4, .inl ⟨rfl, hba, rfl, hb0⟩⟩
            | some xa =>
              have Hba : Hid (t.ba = some xa) := hba
              rw [hba] at c7
              clear hba
              have hn : t.bl ≤ 65536 := by omega
              go_wp2_with (go_at_call 26; refine (branchSlice_any t.bl hn _).mono ?_; rintro e w5 ⟨rfl, hb5, hs5, hrow5⟩)
              have B5 := B4.step hb5
              have hgb : w0.heap.size + 1 ≤ wc.heap.size := B4.size
              clear c7 hb5 B4 hs5
              generalize wc.heap.size = gb at *
              go_loopw [5] (fun i wr => ∃ (k : Nat) (f : Nat → Value), k ≤ t.bl ∧ i = .int .i64 k ∧ Box w0 t wr ∧ wr.rowIs gb 69 (t.bl * 10) f ∧ BranchRow wr gb k f t.B) (fun i _ => t.bl - (intOf i).toNat)
              case atStart => exact ⟨0, _, Nat.zero_le _, rfl, B5, hrow5, BranchRow.zero _ _ _ _⟩
              case round =>
                obtain ⟨k, f, hk, rfl, B6, hrow6, hbr6⟩ := hrel
                have c7 := B6.cells0.2.2.2.2.2.2.2.1
                rw [Hba.out] at c7
                by_cases hlt : k < t.bl
                · obtain ⟨b, off, ha, hblt, k0, k1, k2, k3, k4, k5, k6, k7, k8, k9, hok⟩ := (H.out.hb.below B6.below).ten hlt
                  obtain rfl : xa = ⟨b, off, none⟩ := by have := Hba.out; rw [ha] at this; simpa using this.symm
                  have hcl9 := HL.out k hlt
                  have Hok : Hid ((t.B k).Ok wr) := hok
                  have Hbr : Hid (BranchRow wr gb k f t.B) := hbr6
                  have Hrow : Hid (wr.rowIs gb 69 (t.bl * 10) f) := hrow6
                  have hgl := hrow6.lt
                  clear ha hok hbr6 hrow6 hrow5 B5
                  go_wp2_with fail
                  obtain ⟨W, hW⟩ : ∃ W, wr.alloc (.cells (t.B k).vals 62) = W := ⟨_, rfl⟩
                  have hW' := hW
                  unfold Br.vals at hW'
                  rw [hW']
                  obtain ⟨nb, hnb⟩ : ∃ nb, wr.heap.size = nb := ⟨_, rfl⟩
                  have hBW : Below wr.heap.size wr W := by rw [← hW]; exact below1 _ _
                  have hWs : W.heap.size = nb + 1 := by rw [← hW, ← hnb]; simp
                  have hrow7 := Hrow.out.of_block (hBW.block _ hgl)
                  have S7 : HeldS nb gb (k * 10) (t.B k) W := HeldS.mk (fun j hj => by rw [← hW, ← hnb]; exact World.cell?_alloc_mark wr _ 62 (0, 0) j) hrow7 (by omega)
                  have B7 := B6.step hBW
                  have Hok7 : Hid ((t.B k).Ok W) := Hok.out.below hBW
                  have Hrow7 : Hid (W.rowIs gb 69 (t.bl * 10) f) := hrow7
                  have Hbr7 : Hid (BranchRow W gb k f t.B) := Hbr.out.below hBW
                  have hgl7 : gb < W.heap.size := by omega
                  have hnl7 : nb < W.heap.size := by omega
                  have hltI : (k : Int) < (t.bl : Int) := by omega
                  have hbx : nb ≠ gb := by omega
                  have U7 := S7.step (w' := W.drew) rfl rfl
                  have V7 := S7
                  unfold HeldS at U7 V7
                  rw [hnb]
                  clear hW' hWs hnb hW hBW k0 k1 k2 k3 k4 k5 k6 k7 k8 k9 hrow7 hgl c7 B6 Hok Hrow Hbr
                  go_region_held3 (fun w' => (w'.cell? ⟨nb, 0, none⟩ = some (.int .i64 (t.B k).id) ∧ w'.cell? ⟨nb, 1, none⟩ = some (.string (t.B k).s1) ∧ w'.cell? ⟨nb, 2, none⟩ = some (.string (t.B k).s2) ∧ w'.cell? ⟨nb, 3, none⟩ = some (.string (t.B k).s3) ∧ w'.cell? ⟨nb, 4, none⟩ = some (.string (t.B k).s4) ∧ w'.cell? ⟨nb, 5, none⟩ = some (.slice (t.B k).ca (t.B k).cl (t.B k).cc) ∧ w'.cell? ⟨nb, 6, none⟩ = some (.string (t.B k).s6) ∧ w'.cell? ⟨nb, 7, none⟩ = some (.string (t.B k).s7) ∧ w'.cell? ⟨nb, 8, none⟩ = some (.int .i64 (t.B k).att) ∧ w'.cell? ⟨nb, 9, none⟩ = some (.string (t.B k).s9)) ∧ (w'.cell? ⟨gb, k * 10, none⟩ = some (cellOf w' ⟨gb, k * 10, none⟩) ∧ w'.cell? ⟨gb, k * 10 + 1, none⟩ = some (cellOf w' ⟨gb, k * 10 + 1, none⟩) ∧ w'.cell? ⟨gb, k * 10 + 2, none⟩ = some (cellOf w' ⟨gb, k * 10 + 2, none⟩) ∧ w'.cell? ⟨gb, k * 10 + 3, none⟩ = some (cellOf w' ⟨gb, k * 10 + 3, none⟩) ∧ w'.cell? ⟨gb, k * 10 + 4, none⟩ = some (cellOf w' ⟨gb, k * 10 + 4, none⟩) ∧ w'.cell? ⟨gb, k * 10 + 5, none⟩ = some (cellOf w' ⟨gb, k * 10 + 5, none⟩) ∧ w'.cell? ⟨gb, k * 10 + 6, none⟩ = some (cellOf w' ⟨gb, k * 10 + 6, none⟩) ∧ w'.cell? ⟨gb, k * 10 + 7, none⟩ = some (cellOf w' ⟨gb, k * 10 + 7, none⟩) ∧ w'.cell? ⟨gb, k * 10 + 8, none⟩ = some (cellOf w' ⟨gb, k * 10 + 8, none⟩) ∧ w'.cell? ⟨gb, k * 10 + 9, none⟩ = some (cellOf w' ⟨gb, k * 10 + 9, none⟩)) ∧ (w'.frozen? ⟨gb, k * 10, none⟩ = false ∧ w'.frozen? ⟨gb, k * 10 + 1, none⟩ = false ∧ w'.frozen? ⟨gb, k * 10 + 2, none⟩ = false ∧ w'.frozen? ⟨gb, k * 10 + 3, none⟩ = false ∧ w'.frozen? ⟨gb, k * 10 + 4, none⟩ = false ∧ w'.frozen? ⟨gb, k * 10 + 5, none⟩ = false ∧ w'.frozen? ⟨gb, k * 10 + 6, none⟩ = false ∧ w'.frozen? ⟨gb, k * 10 + 7, none⟩ = false ∧ w'.frozen? ⟨gb, k * 10 + 8, none⟩ = false ∧ w'.frozen? ⟨gb, k * 10 + 9, none⟩ = false)) (first | with_reducible exact U7 | with_reducible exact U8 | with_reducible exact U9 | with_reducible exact U10 | go_keep)
                    (first | (go_at_call 28; refine (clone_any _ _ _ (t.B k).z _ (by omega) (by exact Hok7.out.hz) Hok7.out.hn).mono ?_; rintro e w8 ⟨ca, cc, rfl, hca, hb8, hz8, hg8⟩; have hb8' : Below W.heap.size W w8 := ((Below.refl _ _).drew.trans hb8); have S8 := S7.below hb8' hnl7 hgl7; have U8 := S8; unfold HeldS at U8; have hgl8 : gb < w8.heap.size := (by have := hb8'.size; omega); have hnl8 : nb < w8.heap.size := (by have := hb8'.size; omega)) | (go_at_call 27; refine (newBranch_any _ _ _ _ _ _ _ _ _ _ _ _ _).mono ?_; rintro e w9 ⟨rfl, hb9⟩; have S9 := S8.below hb9 hnl8 hgl8; have R9 := ((Hrow7.out.of_block (hb8'.block _ hgl7)).of_block (hb9.block _ hgl8)); have U9 := S9; have U10 := S9.store hbx R9 (by omega) (.int .i64 (t.B k).id) (.string (t.B k).s1) (.string (t.B k).s2) (.string (t.B k).s3) (.string (t.B k).s4) (.slice ca (t.B k).cl cc) (.string (t.B k).s6) (.string (t.B k).s7) (.int .i64 (t.B k).att) (.string (t.B k).s9); unfold HeldS at U9 U10; unfold set10 at U10; clear U8))
                  rename_i hHeld
                  have hb79 : Below W.heap.size W w9 := hb8'.trans (hb9.mono hb8'.size)
                  have Hstep : Hid (_ ∧ _ ∧ _) := build_step5 (cc := cc) B7 hgb hgl7 Hrow7.out Hbr7.out hb79 rfl hca (hz8.below hb9) (by exact hg8)
                  clear hHeld U7 V7 U9 U10 S7 S8 S9 R9 hz8 hg8 hca hb8 hb8' hb9 hb79 Hok7 Hrow7 Hbr7 B7
                  go_wp2
                  go_roundw
                  case rel => exact ⟨k + 1, put10 f (k * 10) ((t.B k).at ca cc), by omega, by go_num, Hstep.out.1, Hstep.out.2.1, Hstep.out.2.2⟩
                  case measure => simp [intOf]; omega
                · obtain rfl : k = t.bl := by omega
                  go_wp2
                  go_meet
                  case rel => exact ⟨some ⟨gb, 0, none⟩, t.bl, f, rfl, B6, .inr ⟨gb, rfl, by rw [Hba.out]; rfl, hgb, hrow6, hbr6⟩⟩
        case rest =>
          obtain ⟨ba, bc, f, rfl, B5, hbs⟩ := hcut
          clear B4 c7 hneq
          have Hbs : Hid (Bs5 w0 t wc ba bc f) := hbs
          clear hbs
          have c8 := B5.cells0.2.2.2.2.2.2.2.2.1
          go_upto_if 126 with (go_at_call 29; refine (noTxn_any _).mono ?_; rintro e wc ⟨rfl, rfl⟩)
          go_cut [7] from 124 to 131 (fun v w => ∃ nx, v = .pointer nx ∧ Box w0 t w ∧ Bs5 w0 t w ba bc f)
          case first =>
            as_aux_lemma =>
              have c0 := B5.cells0.1
              have c6 := B5.cells0.2.2.2.2.2.2.1
              cases hnx : t.nx with
              | false =>
                rw [hnx] at c8
                go_wp2
                go_meet
                case rel => exact ⟨none, rfl, B5, Hbs.out⟩
              | true =>
                rw [hnx] at c8
                clear hnx
                go_wp2_with (go_at_call 10; refine (newTxnXid_any _ _ _).mono ?_; rintro e w6 ⟨rfl, hb6, -⟩)
                go_meet
                case rel => exact ⟨_, rfl, B5.step hb6, Hbs.out.below hb6⟩
          case rest =>
            obtain ⟨nx, rfl, B6, hbs⟩ := hcut
            clear B5 c8 Hbs
            have Hbs : Hid (Bs5 w0 t wc ba bc f) := hbs
            clear hbs
            obtain ⟨a1, a2, hT1⟩ := ztime_any t.d1 H.out.hd1.1 H.out.hd1.2
            obtain ⟨b1, b2, hT2⟩ := ztime_any t.d2 H.out.hd2.1 H.out.hd2.2
            obtain ⟨c1, c2, hT3⟩ := ztime_any t.d3 H.out.hd3.1 H.out.hd3.2
            have H1 : Hid (∀ w, _) := hT1
            have H2 : Hid (∀ w, _) := hT2
            have H3 : Hid (∀ w, _) := hT3
            clear hT1 hT2 hT3
            have hrl4 : t.rl ≤ 140737488351232 := by omega
            go_wp2
            have X6 := (B6.step (Below.refl wc.heap.size wc).drew).cells0
            go_region_held3 (fun w' => w'.cell? ⟨w0.heap.size, 0, none⟩ = some (.string t.x) ∧ w'.cell? ⟨w0.heap.size, 1, none⟩ = some (.string t.st) ∧ w'.cell? ⟨w0.heap.size, 2, none⟩ = some (.pointer t.dp) ∧ w'.cell? ⟨w0.heap.size, 3, none⟩ = some (.int .i64 t.d1) ∧ w'.cell? ⟨w0.heap.size, 4, none⟩ = some (.int .i64 t.d2) ∧ w'.cell? ⟨w0.heap.size, 5, none⟩ = some (.int .i64 t.d3) ∧ w'.cell? ⟨w0.heap.size, 6, none⟩ = some (.int .u64 t.seq) ∧ w'.cell? ⟨w0.heap.size, 7, none⟩ = some (.slice t.ba t.bl t.bc) ∧ w'.cell? ⟨w0.heap.size, 8, none⟩ = some (.bool t.nx) ∧ w'.cell? ⟨w0.heap.size, 9, none⟩ = some (.int .i64 t.wt) ∧ w'.cell? ⟨w0.heap.size, 10, none⟩ = some (.slice t.ra t.rl t.rc)) (first | with_reducible exact X6 | with_reducible exact X7 | with_reducible exact X8 | with_reducible exact X9 | with_reducible exact X10 | with_reducible exact X11 | go_keep)
              (first | (go_at_call_of 31 (Value.int IntKind.i64 t.d1); refine (H1.out _).mono ?_; rintro e w7 ⟨rfl, hb7⟩; have B7 := B6.step ((Below.refl _ _).drew.trans hb7); have X7 := B7.cells0; clear X6) | (go_at_call_of 31 (Value.int IntKind.i64 t.d2); refine (H2.out _).mono ?_; rintro e w8 ⟨rfl, hb8⟩; have B8 := B7.step hb8; have X8 := B8.cells0; clear X7) | (go_at_call_of 31 (Value.int IntKind.i64 t.d3); refine (H3.out _).mono ?_; rintro e w9 ⟨rfl, hb9⟩; have B9 := B8.step hb9; have X9 := B9.cells0; clear X8) | (go_at_call 28; refine (clone_any _ _ _ t.rz _ hrl4 (H.out.hr.below B9.below) H.out.hrn).mono ?_; rintro e w10 ⟨ra', rc', rfl, hrn10, hb10, hrz10, -⟩; have B10 := B9.step hb10; have X10 := B10.cells0; clear X9) | (go_at_call 30; refine (newTxnFull_any (TV.mk t.x t.st dp ba t.bl bc a1 a2 b1 b2 c1 c2 t.seq nx t.wt ra' t.rl rc') _).mono ?_; rintro e w11 ⟨go, rfl, hgo, hb11, ht11⟩; have B11 := B10.step hb11; have X11 := B11.cells0; clear X10))
            rename_i hHeld
            have hbc11 : Below wc.heap.size wc w11 := ((Below.refl _ _).drew.trans hb7).trans ((hb8.trans ((hb9.trans ((hb10.trans (hb11.mono hb10.size)).mono hb9.size)).mono hb8.size)).mono ((Below.refl _ _).drew.trans hb7).size)
            have Hb11 : Hid (Bs5 w0 t w11 ba bc f) := Hbs.out.below hbc11
            have Hr11 : Hid (ra'.isNone = t.ra.isNone ∧ BytesAt w11 ra' t.rl t.rz) := ⟨hrn10, hrz10.below hb11⟩
            have Ht11 : Hid (TxnAt w11 go (TV.mk t.x t.st dp ba t.bl bc a1 a2 b1 b2 c1 c2 t.seq nx t.wt ra' t.rl rc')) := ht11
            clear hHeld X11 hb7 hb8 hb9 hb10 hb11 ht11 hbc11 Hbs B6 B7 B8 B9 B10 hgo hrn10 hrz10
            have hn : t.bl ≤ 65536 := by omega
            go_wp2_with fail
            refine (zzcopy_any5 go _ f _ Ht11.out hn Hb11.out.row.1 Hb11.out.row.2.1 Hb11.out.row.2.2.1).mono ?_
            rintro e w12 ⟨g1, p1, q1, rfl, hg1, hb12, ht12, hn12, hz12, hr12, hx12, hR12⟩
            have hgo1 : go < w11.heap.size := Ht11.out.lt
            have hp1 := eql_txn ht12 (Ht11.out.below hb12) (show g1 ≠ go by omega)
            have B12 := B11.step hb12
            have Hc12 : Hid (TxnAt w12 g1 _ ∧ p1.isNone = ba.isNone ∧ (p1 = none → q1 = 0) ∧ RowAt w12 p1 t.bl f ∧ (∀ x, p1 = some x → w11.heap.size ≤ x.block) ∧ Row0 w12 p1 ∧ Below w11.heap.size w11 w12) := ⟨ht12, hn12, hz12, hr12, hx12, hR12, hb12⟩
            clear ht12 hn12 hz12 hr12 hx12 hR12 hb12 B11
            go_wp2_with fail
            refine (zzcopy_any5 g1 _ f _ Hc12.out.1 hn Hc12.out.2.2.2.1 Hc12.out.2.2.1 Hb11.out.row.2.2.1).mono ?_
            rintro e w16 ⟨g2, p2, q2, rfl, hg2, hb16, ht16, hn16, hz16, hr16, hx16, hR16⟩
            have hg12 : g1 < w12.heap.size := Hc12.out.1.lt
            have hb1216 := Hc12.out.2.2.2.2.2.2
            have hgo2 : go < w12.heap.size := by have := hb1216.size; omega
            have hp2 := eql_txn ht16 (Hc12.out.1.below hb16) (show g2 ≠ g1 by omega)
            have hp3 := eql_txn ht16 ((Ht11.out.below hb1216).below hb16) (show g2 ≠ go by omega)
            have B16 := B12.step hb16
            have e0 : Ek t dp nx a1 a2 b1 b2 c1 c2 0 w16 go := by
              obtain ⟨gb, hbr⟩ := Hb11.out.row.2.2.2.2.2
              exact Ek.below (w := w12) (Ek.below (w := w11) ⟨ba, bc, nx, t.wt, ra', t.rl, rc', f, gb, Ht11.out, Hb11.out.row.2.2.2.1, Hb11.out.row.1, hbr, fun _ => ⟨rfl, rfl, rfl, Hr11.out.1, Hr11.out.2⟩, fun h => absurd rfl h⟩ hb1216) hb16
            have e1 : Ek t dp nx a1 a2 b1 b2 c1 c2 1 w16 g1 := by
              obtain ⟨gb, hbr⟩ := Hb11.out.row.2.2.2.2.2
              exact Ek.below (w := w12) ⟨p1, q1, none, 0, none, 0, 0, f, gb, Hc12.out.1, Hc12.out.2.1.trans Hb11.out.row.2.2.2.1, Hc12.out.2.2.2.1, hbr.below hb1216, fun h => absurd h (by omega), fun _ => ⟨rfl, rfl, rfl, rfl, rfl⟩⟩ hb16
            have e2 : Ek t dp nx a1 a2 b1 b2 c1 c2 2 w16 g2 := by
              obtain ⟨gb, hbr⟩ := Hb11.out.row.2.2.2.2.2
              exact ⟨p2, q2, none, 0, none, 0, 0, f, gb, ht16, (hn16.trans Hc12.out.2.1).trans Hb11.out.row.2.2.2.1, hr16, (hbr.below hb1216).below hb16, fun h => absurd h (by omega), fun _ => ⟨rfl, rfl, rfl, rfl, rfl⟩⟩
            have HA : Hid (TxnAt w16 go (TV.mk t.x t.st dp ba t.bl bc a1 a2 b1 b2 c1 c2 t.seq nx t.wt ra' t.rl rc')) := (Ht11.out.below hb1216).below hb16
            have HB : Hid (TxnAt w16 g1 (TV.mk t.x t.st dp p1 t.bl q1 a1 a2 b1 b2 c1 c2 t.seq none 0 none 0 0)) := Hc12.out.1.below hb16
            have HC : Hid (TxnAt w16 g2 (TV.mk t.x t.st dp p2 t.bl q2 a1 a2 b1 b2 c1 c2 t.seq none 0 none 0 0)) := ht16
            have HD : Hid (0 < t.bl → _) := fun h0 => apart3 h0 Hb11.out.row.1 Hb11.out.row.2.2.2.2.1 hb1216 Hc12.out.2.2.2.1 Hc12.out.2.2.2.2.2.1 Hc12.out.2.2.2.2.1 hb16 hr16 hR16 hx16
            have HE : Hid (Ek t dp nx a1 a2 b1 b2 c1 c2 0 w16 go ∧ Ek t dp nx a1 a2 b1 b2 c1 c2 1 w16 g1 ∧ Ek t dp nx a1 a2 b1 b2 c1 c2 2 w16 g2) := ⟨e0, e1, e2⟩
            clear hp1 e0 e1 e2 ht16 hn16 hz16 hr16 hx16 hR16 hb16 hb1216 hg12 hgo2 hgo1 hg1 hg2 Hc12 Hb11 Ht11 Hr11 B12
            go_wp2_with (go_at_call 9; refine (txnSlice_any 3 (by omega) _).mono ?_; rintro e w17 ⟨rfl, hb17, hrow17⟩; have k0 := hrow17.cell (show 0 < 3 by omega); have k1 := hrow17.cell (show 1 < 3 by omega); have k2 := hrow17.cell (show 2 < 3 by omega); have f0 := hrow17.frozen 0; have f1 := hrow17.frozen 1; have f2 := hrow17.frozen 2)
            have T18 := three_made B16 hb17 hrow17 HE.out.1 HE.out.2.1 HE.out.2.2
            clear hb17 hrow17 HE k0 k1 k2 f0 f1 f2 hp2 hp3 B16
            generalize ((w17.setCell _ _).setCell _ _).setCell _ _ = w18 at T18 ⊢
            generalize hGe : w16.heap.size = G at *
            have HGe : Hid (w16.heap.size = G) := hGe
            clear hGe
            have HT18 : Hid (Three w0 t dp nx a1 a2 b1 b2 c1 c2 G w18 ∧ Below G w16 w18) := T18
            clear T18
            go_loopw [12] (fun kk wr => ∃ k : Nat, k ≤ 3 ∧ kk = .int .i64 k ∧ Below w18.heap.size w18 wr) (fun kk _ => 3 - (intOf kk).toNat)
            case atStart => exact ⟨0, by omega, rfl, Below.refl _ _⟩
            case round =>
              obtain ⟨k, hk, rfl, hb18⟩ := hrel
              by_cases hk2 : k < 3
              · have hT := HT18.out.1.below hb18
                obtain ⟨g, hcg, ba2, bc2, n2, wt2, ra2, rl2, rc2, f2, gb2, hta, hnn, hrr, hbb, hz0, hz1⟩ := hT.each k hk2
                have C0 := hT.bx.cells0
                have hk2I : (k : Int) < 3 := by omega
                obtain ⟨wo, rfl⟩ : ∃ wo : World, wo = wr := ⟨_, rfl⟩
                have Hta : Hid (TxnAt wo g _) := hta
                have HT : Hid (Three w0 t dp nx a1 a2 b1 b2 c1 c2 G wo) := hT
                have Hrr : Hid (RowAt wo ba2 t.bl f2 ∧ BranchRow wo gb2 t.bl f2 t.B) := ⟨hrr, hbb⟩
                have Hz : Hid ((k = 0 → n2 = nx ∧ wt2 = t.wt ∧ rl2 = t.rl ∧ ra2.isNone = t.ra.isNone ∧ BytesAt wo ra2 t.rl t.rz) ∧ (k ≠ 0 → n2 = none ∧ wt2 = 0 ∧ ra2 = none ∧ rl2 = 0 ∧ rc2 = 0)) := ⟨hz0, hz1⟩
                have Hnn : Hid (ba2.isNone = t.ba.isNone) := hnn
                clear hT hta hnn hrr hbb hz0 hz1
                go_wp2_with fail
                refine (txnState_any g _ _ Hta.out).mono ?_
                rintro e w20 ⟨rfl, hb20⟩
                have HT20 : Hid (Three w0 t dp nx a1 a2 b1 b2 c1 c2 G w20) := HT.out.below hb20
                have Hta20 : Hid (TxnAt w20 g _) := Hta.out.below hb20
                have Hrr20 : Hid (RowAt w20 ba2 t.bl f2 ∧ BranchRow w20 gb2 t.bl f2 t.B) := ⟨Hrr.out.1.below hb20, Hrr.out.2.below hb20⟩
                have Hz20 : Hid ((k = 0 → n2 = nx ∧ wt2 = t.wt ∧ rl2 = t.rl ∧ ra2.isNone = t.ra.isNone ∧ BytesAt w20 ra2 t.rl t.rz) ∧ (k ≠ 0 → n2 = none ∧ wt2 = 0 ∧ ra2 = none ∧ rl2 = 0 ∧ rc2 = 0)) := ⟨fun e => ⟨(Hz.out.1 e).1, (Hz.out.1 e).2.1, (Hz.out.1 e).2.2.1, (Hz.out.1 e).2.2.2.1, (Hz.out.1 e).2.2.2.2.below hb20⟩, Hz.out.2⟩
                have hcg20 : w20.cell? ⟨G, k, none⟩ = some (.pointer (some ⟨g, 0, none⟩)) := (hb20.cell (p := ⟨G, k, none⟩) HT.out.hG).trans hcg
                have hb1820 : Below w18.heap.size w18 w20 := hb18.trans (hb20.mono hb18.size)
                have C20 := HT20.out.bx.cells0
                have Hcg20 : Hid (w20.cell? ⟨G, k, none⟩ = some (.pointer (some ⟨g, 0, none⟩))) := hcg20
                clear HT Hta Hrr Hz hcg C0 hb20 hb18
                have q53 := neq53
                have qseq : (t.seq != t.seq) = false := by simp
                go_wp2_with fail
                refine (txnTimes_any g _ _ Hta20.out).mono ?_
                rintro e w21 ⟨rfl, hb21⟩
                have HT21 : Hid (Three w0 t dp nx a1 a2 b1 b2 c1 c2 G w21) := HT20.out.below hb21
                have Hta21 : Hid (TxnAt w21 g _) := Hta20.out.below hb21
                have Hrr21 : Hid (RowAt w21 ba2 t.bl f2 ∧ BranchRow w21 gb2 t.bl f2 t.B) := ⟨Hrr20.out.1.below hb21, Hrr20.out.2.below hb21⟩
                have Hz21 : Hid ((k = 0 → n2 = nx ∧ wt2 = t.wt ∧ rl2 = t.rl ∧ ra2.isNone = t.ra.isNone ∧ BytesAt w21 ra2 t.rl t.rz) ∧ (k ≠ 0 → n2 = none ∧ wt2 = 0 ∧ ra2 = none ∧ rl2 = 0 ∧ rc2 = 0)) := ⟨fun e => ⟨(Hz20.out.1 e).1, (Hz20.out.1 e).2.1, (Hz20.out.1 e).2.2.1, (Hz20.out.1 e).2.2.2.1, (Hz20.out.1 e).2.2.2.2.below hb21⟩, Hz20.out.2⟩
                have hb1821 : Below w18.heap.size w18 w21 := hb1820.trans (hb21.mono hb1820.size)
                have Hcg21 : Hid (w21.cell? ⟨G, k, none⟩ = some (.pointer (some ⟨g, 0, none⟩))) := (hb21.cell (p := ⟨G, k, none⟩) HT20.out.hG).trans Hcg20.out
                clear HT20 Hta20 Hrr20 Hz20 hcg20 Hcg20 C20 hb21 hb1820 q53 qseq
                go_wp2_with fail
                obtain ⟨W, hW⟩ : ∃ W, ((w21.alloc (.cells #[.int .u64 a1, .int .i64 a2, .pointer none] 76)).alloc (.cells #[.int .u64 b1, .int .i64 b2, .pointer none] 76)).alloc (.cells #[.int .u64 c1, .int .i64 c2, .pointer none] 76) = W := ⟨_, rfl⟩
                rw [hW]
                have hbW : Below w21.heap.size w21 W := by rw [← hW]; exact ((below1 _ _).alloc (by simp) _).alloc (by simp; omega) _
                have hWs : W.heap.size = w21.heap.size + 3 := by rw [← hW]; simp
                have HTW : Hid (Three w0 t dp nx a1 a2 b1 b2 c1 c2 G W) := HT21.out.below hbW
                have CW := HTW.out.bx.cells0
                have S1 : TimesS w21.heap.size w0.heap.size t.d1 t.d2 t.d3 a1 a2 b1 b2 c1 c2 W := by
                  obtain ⟨i1, i2, i3⟩ := alloc3_heap w21 (.cells #[.int .u64 a1, .int .i64 a2, .pointer none] 76) (.cells #[.int .u64 b1, .int .i64 b2, .pointer none] 76) (.cells #[.int .u64 c1, .int .i64 c2, .pointer none] 76)
                  rw [hW] at i1 i2 i3
                  refine ⟨?_, ?_, ?_, ?_, ?_, ?_, ?_, ?_, ?_, CW.2.2.2.1, CW.2.2.2.2.1, CW.2.2.2.2.2.1⟩ <;> simp [World.cell?, i1, i2, i3]
                obtain ⟨N, hN⟩ : ∃ N, w21.heap.size = N := ⟨_, rfl⟩
                have hNW : N + 1 + 1 < W.heap.size := by omega
                have h0W : w0.heap.size < W.heap.size := by have := HTW.out.bx.size; omega
                rw [hN]
                rw [hN] at S1
                have HtaW : Hid (TxnAt W g _) := Hta21.out.below hbW
                have HrrW : Hid (RowAt W ba2 t.bl f2 ∧ BranchRow W gb2 t.bl f2 t.B) := ⟨Hrr21.out.1.below hbW, Hrr21.out.2.below hbW⟩
                have HzW : Hid ((k = 0 → n2 = nx ∧ wt2 = t.wt ∧ rl2 = t.rl ∧ ra2.isNone = t.ra.isNone ∧ BytesAt W ra2 t.rl t.rz) ∧ (k ≠ 0 → n2 = none ∧ wt2 = 0 ∧ ra2 = none ∧ rl2 = 0 ∧ rc2 = 0)) := ⟨fun e => ⟨(Hz21.out.1 e).1, (Hz21.out.1 e).2.1, (Hz21.out.1 e).2.2.1, (Hz21.out.1 e).2.2.2.1, (Hz21.out.1 e).2.2.2.2.below hbW⟩, Hz21.out.2⟩
                have hb18W : Below w18.heap.size w18 W := hb1821.trans (hbW.mono hb1821.size)
                have HcgW : Hid (W.cell? ⟨G, k, none⟩ = some (.pointer (some ⟨g, 0, none⟩))) := (hbW.cell (p := ⟨G, k, none⟩) HT21.out.hG).trans Hcg21.out
                clear Hcg21 CW hW hWs hN HT21 Hta21 Hrr21 Hz21 hb1821 hbW
                have U1 := S1.below (w' := W.drew) ((Below.refl _ _).drew) hNW h0W
                have V1 := S1
                unfold TimesS at U1 V1
                have q76 := neq76
                go_region_held3 (fun w' => w'.cell? ⟨N, 0, none⟩ = some (.int .u64 a1) ∧ w'.cell? ⟨N, 1, none⟩ = some (.int .i64 a2) ∧ w'.cell? ⟨N, 2, none⟩ = some (.pointer none) ∧ w'.cell? ⟨N + 1, 0, none⟩ = some (.int .u64 b1) ∧ w'.cell? ⟨N + 1, 1, none⟩ = some (.int .i64 b2) ∧ w'.cell? ⟨N + 1, 2, none⟩ = some (.pointer none) ∧ w'.cell? ⟨N + 1 + 1, 0, none⟩ = some (.int .u64 c1) ∧ w'.cell? ⟨N + 1 + 1, 1, none⟩ = some (.int .i64 c2) ∧ w'.cell? ⟨N + 1 + 1, 2, none⟩ = some (.pointer none) ∧ w'.cell? ⟨w0.heap.size, 3, none⟩ = some (.int .i64 t.d1) ∧ w'.cell? ⟨w0.heap.size, 4, none⟩ = some (.int .i64 t.d2) ∧ w'.cell? ⟨w0.heap.size, 5, none⟩ = some (.int .i64 t.d3)) (first | with_reducible exact U1 | with_reducible exact U2 | with_reducible exact U3 | with_reducible exact U4 | go_keep)
                  (first | (go_at_call_of 31 (Value.int IntKind.i64 t.d1); refine (H1.out _).mono ?_; rintro e w22 ⟨rfl, hb22⟩; have hb22' : Below W.heap.size W w22 := ((Below.refl _ _).drew.trans hb22); have S2 := S1.below hb22' hNW h0W; have U2 := S2; unfold TimesS at U2; clear U1; have hN2 : N + 1 + 1 < w22.heap.size := (by have := hb22'.size; omega); have h02 : w0.heap.size < w22.heap.size := (by have := hb22'.size; omega)) | (go_at_call_of 31 (Value.int IntKind.i64 t.d2); refine (H2.out _).mono ?_; rintro e w23 ⟨rfl, hb23⟩; have S3 := S2.below hb23 hN2 h02; have U3 := S3; unfold TimesS at U3; clear U2; have hN3 : N + 1 + 1 < w23.heap.size := (by have := hb23.size; omega); have h03 : w0.heap.size < w23.heap.size := (by have := hb23.size; omega)) | (go_at_call_of 31 (Value.int IntKind.i64 t.d3); refine (H3.out _).mono ?_; rintro e w24 ⟨rfl, hb24⟩; have S4 := S3.below hb24 hN3 h03; have U4 := S4; unfold TimesS at U4; clear U3))
                rename_i hHeld
                have hbW24 : Below W.heap.size W w24 := hb22'.trans ((hb23.trans (hb24.mono hb23.size)).mono hb22'.size)
                have HT24 : Hid (Three w0 t dp nx a1 a2 b1 b2 c1 c2 G w24) := HTW.out.below hbW24
                have Hta24 : Hid (TxnAt w24 g _) := HtaW.out.below hbW24
                have Hrr24 : Hid (RowAt w24 ba2 t.bl f2 ∧ BranchRow w24 gb2 t.bl f2 t.B) := ⟨HrrW.out.1.below hbW24, HrrW.out.2.below hbW24⟩
                have Hz24 : Hid ((k = 0 → n2 = nx ∧ wt2 = t.wt ∧ rl2 = t.rl ∧ ra2.isNone = t.ra.isNone ∧ BytesAt w24 ra2 t.rl t.rz) ∧ (k ≠ 0 → n2 = none ∧ wt2 = 0 ∧ ra2 = none ∧ rl2 = 0 ∧ rc2 = 0)) := ⟨fun e => ⟨(HzW.out.1 e).1, (HzW.out.1 e).2.1, (HzW.out.1 e).2.2.1, (HzW.out.1 e).2.2.2.1, (HzW.out.1 e).2.2.2.2.below hbW24⟩, HzW.out.2⟩
                have hb1824 : Below w18.heap.size w18 w24 := hb18W.trans (hbW24.mono hb18W.size)
                have Hcg24 : Hid (w24.cell? ⟨G, k, none⟩ = some (.pointer (some ⟨g, 0, none⟩))) := (hbW24.cell (p := ⟨G, k, none⟩) HTW.out.hG).trans HcgW.out
                have hcg24 := Hcg24.out
                clear hHeld U4 V1 S1 S2 S3 S4 hb22 hb22' hb23 hb24 hN2 hN3 h02 h03 hNW h0W HTW HtaW HrrW HzW hb18W hbW24 q76 HcgW
                go_wp2_with fail
                refine (txnBranches_any g _ _ Hta24.out).mono ?_
                rintro e w24 ⟨rfl, rfl⟩
                have C24 := HT24.out.bx.cells0
                have n58 := fun (w : World) (a : Option Addr) (n c : Nat) => Lib.run_eql_slice_nil (P := Try.prog) w 58 69 a n c 0 0 Try.underlying58
                have n47 := fun (w : World) (a : Option Addr) (n c : Nat) => Lib.run_eql_slice_nil (P := Try.prog) w 47 62 a n c 0 0 Try.underlying47
                have hb1 : (ba2.isNone != t.ba.isNone) = false := by rw [Hnn.out]; simp
                have hb2 : ((t.bl : Int) != (t.bl : Int)) = false := by simp
                go_wp2
                clear n58 n47 hb1 hb2 hcg24 C24 Hnn
                go_loopw [21] (fun ii wr => ∃ i : Nat, i ≤ t.bl ∧ ii = .int .i64 i ∧ Below w24.heap.size w24 wr) (fun ii _ => t.bl - (intOf ii).toNat)
                case atStart => exact ⟨0, by omega, rfl, Below.refl _ _⟩
                case round =>
                  obtain ⟨i, hi, rfl, hbi⟩ := hrel
                  by_cases hlt : i < t.bl
                  · as_aux_lemma =>
                      obtain ⟨gg, ca, cc, ha, hgl, m0, m1, m2, m3, m4, m5, m6, m7, m8, m9, hcn, hcz⟩ := row_ten (Hrr24.out.1.below hbi) (Hrr24.out.2.below hbi) hlt
                      subst ha
                      have Hcz : Hid (ca.isNone = (t.B i).ca.isNone ∧ BytesAt wr ca (t.B i).cl (t.B i).z) := ⟨hcn, hcz⟩
                      have HTi : Hid (Three w0 t dp nx a1 a2 b1 b2 c1 c2 G wr) := HT24.out.below hbi
                      clear hcn hcz
                      go_wp2_with fail
                      refine (branchFields_any _ _ _ _ _ _ _ _ _ _ _ _ _).mono ?_
                      rintro e w30 ⟨rfl, hb30⟩
                      have HT30 := HTi.out.below hb30
                      have c7 := HT30.bx.cells0.2.2.2.2.2.2.2.1
                      obtain ⟨b, off, ha, hblt, r0, r1, r2, r3, r4, r5, r6, r7, r8, r9, hok⟩ := (H.out.hb.below HT30.bx.below).ten hlt
                      rw [ha] at c7
                      have Hz1 : Hid (BytesAt w30 ca (t.B i).cl (t.B i).z) := Hcz.out.2.below hb30
                      have Hz2 : Hid (BytesAt w30 (t.B i).ca (t.B i).cl (t.B i).z) := hok.hz
                      have Hcn : Hid (ca.isNone = (t.B i).ca.isNone) := Hcz.out.1
                      have hlen9 : (t.B i).cl ≤ 140737488351232 := by have := HL.out i hlt; omega
                      have hbw : Below w24.heap.size w24 w30 := hbi.trans (hb30.mono hbi.size)
                      clear m0 m1 m2 m3 m4 m5 m6 m7 m8 m9 Hcz hb30 ha hok HT30 HTi
                      go_wp2_with fail
                      refine (sameBranch_true _ _ _ _ _ _ _ _ _ _ _ _ _ _ (t.B i).z _ hlen9 Hcn.out Hz1.out Hz2.out).mono ?_
                      rintro e w31 ⟨rfl, hb31⟩
                      have hb31w : Below w24.heap.size w24 w31 := hbw.trans (hb31.mono hbw.size)
                      clear c7 r0 r1 r2 r3 r4 r5 r6 r7 r8 r9 Hz1 Hz2 Hcn hb31 hbw
                      go_wp2
                      go_roundw
                      case rel => exact ⟨i + 1, by omega, by go_num, hb31w⟩
                      case measure => simp [intOf]; omega
                  · as_aux_lemma =>
                      have hcgi : wr.cell? ⟨G, k, none⟩ = some (.pointer (some ⟨g, 0, none⟩)) := (hbi.cell (p := ⟨G, k, none⟩) HT24.out.hG).trans Hcg24.out
                      go_wp2_with fail
                      refine (txnRest_any g _ _ (Hta24.out.below hbi)).mono ?_
                      rintro e w32 ⟨rfl, hb32⟩
                      have hb2432 : Below w24.heap.size w24 w32 := hbi.trans (hb32.mono hbi.size)
                      have HT32 := HT24.out.below hb2432
                      have hb1832 : Below w18.heap.size w18 w32 := hb1824.trans (hb2432.mono hb1824.size)
                      by_cases hk0 : k = 0
                      · obtain ⟨e1, e2, e3, e4, e5⟩ := Hz24.out.1 hk0
                        subst hk0
                        subst e1 e2 e3
                        have C32 := HT32.bx.cells0
                        have Hb5 : Hid (BytesAt w32 ra2 t.rl t.rz) := e5.below hb2432
                        have Hb6 : Hid (BytesAt w32 t.ra t.rl t.rz) := H.out.hr.below HT32.bx.below
                        have He4 : Hid (ra2.isNone = t.ra.isNone) := e4
                        have q27 := neq27
                        have qwt : (t.wt != t.wt) = false := by simp
                        clear e4 e5 hcgi hb32 hb2432
                        go_wp2_with (go_at_call 39; refine (same_true _ _ _ _ _ t.rz _ hrl4 He4.out Hb5.out Hb6.out).mono ?_; rintro e w33 ⟨rfl, hb33⟩)
                        go_roundw
                        case rel => exact ⟨1, by omega, by go_num, hb1832.trans (hb33.mono hb1832.size)⟩
                        case measure => simp [intOf]
                      · obtain ⟨rfl, rfl, rfl, rfl, rfl⟩ := Hz24.out.2 hk0
                        have hk0' : ((k : Int) == 0) = false := beq_eq_false_iff_ne.2 (by omega)
                        have n48 := fun (w : World) (a : Option Addr) (n c : Nat) => run_neq_slice_nil_any (P := Try.prog) w 48 5 a n c 0 0 Try.underlying48
                        clear hcgi hb32 hb2432
                        go_wp2
                        go_roundw
                        case rel => exact ⟨k + 1, by omega, by go_num, hb1832⟩
                        case measure => simp [intOf]; omega
              · as_aux_lemma =>
                  obtain rfl : k = 3 := by omega
                  have hb16r : Below w16.heap.size w16 wr := by rw [HGe.out]; exact HT18.out.2.trans (hb18.mono (Nat.le_of_lt HT18.out.1.hG))
                  have HTr := HT18.out.1.below hb18
                  have C18 := HTr.bx.cells0
                  by_cases hbl0 : t.bl = 0
                  · have hbl1 : ¬ (0 : Int) < (t.bl : Int) := by omega
                    clear hbl0
                    go_wp2
                    go_ret
                    exact ⟨rfl, HTr.bx.below⟩
                  · obtain ⟨x, y, z, cx, cy, cz, rfl, rfl, rfl, hx, hy, hz, m1, m2, m3⟩ := HD.out (by omega)
                    have hbl1 : (0 : Int) < (t.bl : Int) := by omega
                    have lx := (Array.getElem?_eq_some_iff.1 hx).1
                    have ly := (Array.getElem?_eq_some_iff.1 hy).1
                    have lz := (Array.getElem?_eq_some_iff.1 hz).1
                    have E1 := eql_row ((hb16r.block x lx).trans hx) ((hb16r.block y ly).trans hy) m1
                    have E2 := eql_row ((hb16r.block y ly).trans hy) ((hb16r.block z lz).trans hz) m2
                    have E3 := eql_row ((hb16r.block x lx).trans hx) ((hb16r.block z lz).trans hz) m3
                    clear hx hy hz m1 m2 m3 lx ly lz hbl0
                    go_wp2_with fail
                    refine (txnBranches_any go _ _ (HA.out.below hb16r)).mono ?_
                    rintro e wr ⟨rfl, rfl⟩
                    go_wp2_with fail
                    refine (txnBranches_any g1 _ _ (HB.out.below hb16r)).mono ?_
                    rintro e wr ⟨rfl, rfl⟩
                    go_wp2_with fail
                    refine (txnBranches_any g2 _ _ (HC.out.below hb16r)).mono ?_
                    rintro e wr ⟨rfl, rfl⟩
                    go_wp2
                    go_quiet (fail)
                    go_wp2
                    go_ret
                    exact ⟨rfl, below_drewN HTr.bx.below _⟩
end Go.Proofs.Qxb6616291a
