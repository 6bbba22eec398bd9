import Derived.Test.Qxb6616291aLeaf
import Derived.Deep.RegionHeld3
namespace Go.Proofs.Qxb6616291a
open Go.RowKit
set_option maxHeartbeats 400000
set_option maxRecDepth 100000
/-- what a transaction's twenty cells hold -/
structure TV where
  x : ByteArray
  st : ByteArray
  dp : Option Addr
  ba : Option Addr
  bl : Nat
  bc : Nat
  a1 : Int
  a2 : Int
  b1 : Int
  b2 : Int
  c1 : Int
  c2 : Int
  seq : Int
  nx : Option Addr
  wt : Int
  ra : Option Addr
  rl : Nat
  rc : Nat
def TV.cells (t : TV) : Array Value := #[.int .i32 0, .int .u32 0, .string t.x, .string t.st, .pointer t.dp, .slice t.ba t.bl t.bc, .int .u64 t.a1, .int .i64 t.a2, .pointer none, .pointer none, .int .u64 t.seq, .int .u64 t.b1, .int .i64 t.b2, .pointer none, .int .u64 t.c1, .int .i64 t.c2, .pointer none, .pointer t.nx, .int .i64 t.wt, .slice t.ra t.rl t.rc]
def TxnAt (w : World) (g : Nat) (t : TV) : Prop := w.heap[g]? = some (.cells t.cells 104 (0, 0))
theorem TxnAt.cell {w : World} {g : Nat} {t : TV} (h : TxnAt w g t) (i : Nat) : w.cell? ⟨g, i, none⟩ = t.cells[i]? := by
  unfold TxnAt at h
  simp [World.cell?, h]
theorem TxnAt.lt {w : World} {g : Nat} {t : TV} (h : TxnAt w g t) : g < w.heap.size := (Array.getElem?_eq_some_iff.1 h).1
theorem TxnAt.below {w w' : World} {g : Nat} {t : TV} (h : TxnAt w g t) (hb : Below w.heap.size w w') : TxnAt w' g t := (hb.block g h.lt).trans h
theorem TxnAt.all {w : World} {g : Nat} {t : TV} (h : TxnAt w g t) :
    w.cell? ⟨g, 2, none⟩ = some (.string t.x) ∧ w.cell? ⟨g, 3, none⟩ = some (.string t.st) ∧ w.cell? ⟨g, 4, none⟩ = some (.pointer t.dp) ∧ w.cell? ⟨g, 5, none⟩ = some (.slice t.ba t.bl t.bc) ∧
    w.cell? ⟨g, 6, none⟩ = some (.int .u64 t.a1) ∧ w.cell? ⟨g, 7, none⟩ = some (.int .i64 t.a2) ∧ w.cell? ⟨g, 8, none⟩ = some (.pointer none) ∧ w.cell? ⟨g, 9, none⟩ = some (.pointer none) ∧ w.cell? ⟨g, 10, none⟩ = some (.int .u64 t.seq) ∧
    w.cell? ⟨g, 11, none⟩ = some (.int .u64 t.b1) ∧ w.cell? ⟨g, 12, none⟩ = some (.int .i64 t.b2) ∧ w.cell? ⟨g, 13, none⟩ = some (.pointer none) ∧
    w.cell? ⟨g, 14, none⟩ = some (.int .u64 t.c1) ∧ w.cell? ⟨g, 15, none⟩ = some (.int .i64 t.c2) ∧ w.cell? ⟨g, 16, none⟩ = some (.pointer none) ∧
    w.cell? ⟨g, 17, none⟩ = some (.pointer t.nx) ∧ w.cell? ⟨g, 18, none⟩ = some (.int .i64 t.wt) ∧ w.cell? ⟨g, 19, none⟩ = some (.slice t.ra t.rl t.rc) := by
  simp only [h.cell]
  exact ⟨rfl, rfl, rfl, rfl, rfl, rfl, rfl, rfl, rfl, rfl, rfl, rfl, rfl, rfl, rfl, rfl, rfl, rfl⟩
theorem alloc4_new (w : World) (o1 o2 o3 o4 : Obj) : ((((w.alloc o1).alloc o2).alloc o3).alloc o4).heap[w.heap.size + 1 + 1 + 1]? = some o4 := by
  have := heap_alloc_new (((w.alloc o1).alloc o2).alloc o3) o4
  simpa using this
theorem newTxnFull_any (t : TV) (w : World) :
    Calls Try.prog 30 #[.string t.x, .string t.st, .pointer t.dp, .agg #[.int .u64 t.a1, .int .i64 t.a2, .pointer none], .agg #[.int .u64 t.b1, .int .i64 t.b2, .pointer none], .agg #[.int .u64 t.c1, .int .i64 t.c2, .pointer none], .int .u64 t.seq, .slice t.ba t.bl t.bc, .pointer t.nx, .int .i64 t.wt, .slice t.ra t.rl t.rc] w fun e w' =>
      ∃ g, e = .returned (.pointer (some ⟨g, 0, none⟩)) ∧ w.heap.size ≤ g ∧ Below w.heap.size w w' ∧ TxnAt w' g t := by
  go_enter Try.func30, Try.ntmps30
  go_wp2
  go_ret
  refine ⟨w.heap.size + 1 + 1 + 1, rfl, by omega, ?_, ?_⟩
  · exact ((((Below.refl _ _).alloc (by simp) _).alloc (by simp) _).alloc (by simp; omega) _).alloc (by simp; omega) _
  · exact alloc4_new _ _ _ _ _
theorem txnState_any (g : Nat) (t : TV) (w : World) (h : TxnAt w g t) :
    Calls Try.prog 33 #[.pointer (some ⟨g, 0, none⟩)] w fun e w' => e = .returned (.tuple #[.string t.x, .string t.st, .pointer t.dp, .int .u64 t.seq]) ∧ Below w.heap.size w w' := by
  obtain ⟨c2, c3, c4, c5, c6, c7, c8, c9, c10, c11, c12, c13, c14, c15, c16, c17, c18, c19⟩ := h.all
  clear h c5 c6 c7 c8 c9 c11 c12 c13 c14 c15 c16 c17 c18 c19
  go_enter Try.func33, Try.ntmps33
  go_wp2
  go_quiet (fail)
  go_wp2
  refine bodyPost_ret (v := .tuple #[.string t.x, .string t.st, .pointer t.dp, .int .u64 t.seq]) (by simp [results, Try.results33, go_sem]) rfl ⟨rfl, below_drewN (Below.refl _ _) _⟩
theorem txnRest_any (g : Nat) (t : TV) (w : World) (h : TxnAt w g t) :
    Calls Try.prog 38 #[.pointer (some ⟨g, 0, none⟩)] w fun e w' => e = .returned (.tuple #[.pointer none, .pointer t.nx, .int .i64 t.wt, .slice t.ra t.rl t.rc]) ∧ Below w.heap.size w w' := by
  obtain ⟨c2, c3, c4, c5, c6, c7, c8, c9, c10, c11, c12, c13, c14, c15, c16, c17, c18, c19⟩ := h.all
  clear h c2 c3 c4 c5 c6 c7 c8 c11 c12 c13 c14 c15 c16
  go_enter Try.func38, Try.ntmps38
  go_wp2
  go_quiet (fail)
  go_wp2
  refine bodyPost_ret (v := .tuple #[.pointer none, .pointer t.nx, .int .i64 t.wt, .slice t.ra t.rl t.rc]) (by simp [results, Try.results38, go_sem]) rfl ⟨rfl, below_drewN (Below.refl _ _) _⟩
theorem txnBranches_any (g : Nat) (t : TV) (w : World) (h : TxnAt w g t) :
    Calls Try.prog 35 #[.pointer (some ⟨g, 0, none⟩)] w fun e w' => e = .returned (.slice t.ba t.bl t.bc) ∧ w' = w := by
  obtain ⟨c2, c3, c4, c5, c6, c7, c8, c9, c10, c11, c12, c13, c14, c15, c16, c17, c18, c19⟩ := h.all
  clear h c2 c3 c4 c6 c7 c8 c11 c12 c13 c14 c15 c16 c9 c10 c17 c18 c19
  go_enter Try.func35, Try.ntmps35
  go_wp2
  go_ret
  exact ⟨rfl, rfl⟩
theorem branchFields_any (id : Int) (s1 s2 s3 s4 : ByteArray) (ca : Option Addr) (cl cc : Nat) (s6 s7 : ByteArray) (at_ : Int) (s9 : ByteArray) (w : World) :
    Calls Try.prog 36 #[.agg #[.int .i64 id, .string s1, .string s2, .string s3, .string s4, .slice ca cl cc, .string s6, .string s7, .int .i64 at_, .string s9]] w fun e w' =>
      e = .returned (.tuple #[.int .i64 id, .string s1, .string s2, .string s3, .string s4, .slice ca cl cc, .string s6, .string s7, .int .i64 at_, .string s9]) ∧ Below w.heap.size w w' := by
  go_enter Try.func36, Try.ntmps36
  go_wp2
  go_quiet (fail)
  go_wp2
  refine bodyPost_ret (v := .tuple #[.int .i64 id, .string s1, .string s2, .string s3, .string s4, .slice ca cl cc, .string s6, .string s7, .int .i64 at_, .string s9]) (by simp [results, Try.results36, go_sem]) rfl ⟨rfl, ?_⟩
  exact below_drewN ((Below.refl _ _).alloc (Nat.le_refl _) _) _
theorem txnTimes_any (g : Nat) (t : TV) (w : World) (h : TxnAt w g t) :
    Calls Try.prog 34 #[.pointer (some ⟨g, 0, none⟩)] w fun e w' => e = .returned (.tuple #[.agg #[.int .u64 t.a1, .int .i64 t.a2, .pointer none], .agg #[.int .u64 t.b1, .int .i64 t.b2, .pointer none], .agg #[.int .u64 t.c1, .int .i64 t.c2, .pointer none]]) ∧ Below w.heap.size w w' := by
  have hlt : g < w.heap.size := h.lt
  obtain ⟨c2, c3, c4, c5, c6, c7, c8, c9, c10, c11, c12, c13, c14, c15, c16, c17, c18, c19⟩ := h.all
  clear h c2 c3 c4 c5 c9 c10 c17 c18 c19
  have hw : ∀ o1 o2 o3 i, (((w.alloc o1).alloc o2).alloc o3).cell? ⟨g, i, none⟩ = w.cell? ⟨g, i, none⟩ := fun o1 o2 o3 i =>
    (((((Below.refl w.heap.size w).alloc (by simp) o1).alloc (by simp) o2).alloc (by simp; omega) o3).cell (p := ⟨g, i, none⟩) hlt)
  go_enter Try.func34, Try.ntmps34
  go_wp2
  go_region
  go_wp2
  refine bodyPost_ret (v := .tuple #[.agg #[.int .u64 t.a1, .int .i64 t.a2, .pointer none], .agg #[.int .u64 t.b1, .int .i64 t.b2, .pointer none], .agg #[.int .u64 t.c1, .int .i64 t.c2, .pointer none]]) (by simp [results, Try.results34, go_sem]) rfl ⟨rfl, ?_⟩
  exact ((((Below.refl _ _).alloc (by simp) _).alloc (by simp) _).alloc (by simp; omega) _).drew
theorem txnSlice_any (n : Nat) (hn : n ≤ 3) (w : World) :
    Calls Try.prog 9 #[.int .i64 n] w fun e w' => e = .returned (.slice (some ⟨w.heap.size, 0, none⟩) n n) ∧ Below w.heap.size w w' ∧ w'.rowIs w.heap.size 27 n (fun _ => .pointer none) := by
  have hmk := run_make_row' (P := Try.prog) 25 27 (.pointer none) 8 Try.underlying25 Try.info27 rfl .i64 .i64 n (by omega) (by omega)
  go_enter Try.func9, Try.ntmps9
  go_wp2
  go_ret
  exact ⟨rfl, below1 _ _, World.rowIs_made _ _ _ _⟩
/-- the ten values of a branch that is all zero -/
def zb : Array Value := #[.int .i64 0, .string ⟨#[]⟩, .string ⟨#[]⟩, .string ⟨#[]⟩, .string ⟨#[]⟩, .slice none 0 0, .string ⟨#[]⟩, .string ⟨#[]⟩, .int .i64 0, .string ⟨#[]⟩]
theorem branchSlice_any (n : Nat) (hn : n ≤ 65536) (w : World) :
    Calls Try.prog 26 #[.int .i64 n] w fun e w' => e = .returned (.slice (some ⟨w.heap.size, 0, none⟩) n n) ∧ Below w.heap.size w w' ∧ w'.heap.size = w.heap.size + 1 ∧ w'.rowIs w.heap.size 69 (n * 10) (fun i => zb[i % 10]!) := by
  obtain ⟨i0, hi, hz0, hz1, hz2⟩ := info_parts Try.info69
  have hmk := fun (w : World) => run_make (P := Try.prog) w 58 69 i0 _ Try.underlying58 hi hz0 .i64 .i64 n n (by omega) (by omega) (by rw [hz2]; omega) (by omega)
  rw [hz1] at hmk
  have hmk' : ∀ w : World, (Instr.makeSlice 58 (.int .i64 n) (.int .i64 n)).run Try.prog w = .ok (.slice (some ⟨w.heap.size, 0, none⟩) n n) (w.alloc (.cells (madeCells zb (n * 10)) 69)) := fun w => hmk w
  clear hmk hi hz0 hz1 hz2
  go_enter Try.func26, Try.ntmps26
  go_wp2
  go_ret
  refine ⟨rfl, below1 _ _, by simp, madeCells zb (n * 10), heap_alloc_new _ _, size_madeCells _ _, fun i hi => ?_⟩
  simp [madeCells, hi]
  rfl
end Go.Proofs.Qxb6616291a
