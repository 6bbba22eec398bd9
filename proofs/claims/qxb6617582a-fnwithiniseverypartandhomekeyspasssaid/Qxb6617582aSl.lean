import Derived.Test.Qxb6617582aBy
import Derived.Laws.CopyOwn
namespace Go.Proofs.Qxb6617582a
open Go.RowKit Go.Maps
set_option maxHeartbeats 2000000
set_option maxRecDepth 100000
theorem Try.info9 : (Try.prog.info? 9).map (fun i => (i.zero, i.size, i.bytes)) = some (some (.string ⟨#[]⟩), 1, 16) := by kernel_rfl
theorem Try.info3 : (Try.prog.info? 3).map (fun i => (i.zero, i.size, i.bytes)) = some (some (.int .i64 0), 1, 8) := by kernel_rfl
theorem Try.info4 : (Try.prog.info? 4).map (fun i => (i.zero, i.size, i.bytes)) = some (some (.bool false), 1, 1) := by kernel_rfl
theorem make22 (n : Nat) (h : n ≤ 1048576) (w : World) : (Instr.makeSlice 22 (.int .i64 (n : Int)) (.int .i64 (n : Int))).run Try.prog w = .ok (.slice (some ⟨w.heap.size, 0, none⟩) n n) (w.alloc (.cells (madeCells #[.string ⟨#[]⟩] n) 9)) :=
  run_make_row' (P := Try.prog) 22 9 (.string ⟨#[]⟩) 16 Try.underlying22 Try.info9 rfl .i64 .i64 n (by omega) (by omega) w
theorem make23 (n : Nat) (h : n ≤ 1048576) (w : World) : (Instr.makeSlice 23 (.int .i64 (n : Int)) (.int .i64 (n : Int))).run Try.prog w = .ok (.slice (some ⟨w.heap.size, 0, none⟩) n n) (w.alloc (.cells (madeCells #[.int .i64 0] n) 3)) :=
  run_make_row' (P := Try.prog) 23 3 (.int .i64 0) 8 Try.underlying23 Try.info3 rfl .i64 .i64 n (by omega) (by omega) w
theorem make24 (n : Nat) (h : n ≤ 1048576) (w : World) : (Instr.makeSlice 24 (.int .i64 (n : Int)) (.int .i64 (n : Int))).run Try.prog w = .ok (.slice (some ⟨w.heap.size, 0, none⟩) n n) (w.alloc (.cells (madeCells #[.bool false] n) 4)) :=
  run_make_row' (P := Try.prog) 24 4 (.bool false) 1 Try.underlying24 Try.info4 rfl .i64 .i64 n (by omega) (by omega) w
/-- the address behind x[k:] -/
def shiftA (a : Option Addr) (cap k : Nat) : Option Addr := if cap = k then a else a.map (·.add k)
theorem size9 (w : World) : (sizeOf 9).run Try.prog w = .ok 1 w := by simp [go_sem]
theorem size3 (w : World) : (sizeOf 3).run Try.prog w = .ok 1 w := by simp [go_sem]
theorem size4 (w : World) : (sizeOf 4).run Try.prog w = .ok 1 w := by simp [go_sem]
theorem run_hi {T e : TypeId} (hT : Try.prog.underlying T = some (.slice e)) (hs : ∀ w, (sizeOf e).run Try.prog w = .ok 1 w) (a : Option Addr) (len cap k : Nat) (hk : k ≤ cap) (hn : a = none → cap = 0) (w : World) : (Instr.slice T (.slice a len cap) none (some (.int .i64 (k : Int))) none).run Try.prog w = .ok (.slice a k cap) w := by
  cases a with
  | none =>
    obtain rfl : cap = 0 := hn rfl
    obtain rfl : k = 0 := by omega
    simp [Instr.slice, Instr.sliceBounds, Instr.sliceBound, asIntOf, run_underlying hT, hs, go_sem]
  | some x =>
    simp [Instr.slice, Instr.sliceBounds, Instr.sliceBound, asIntOf, run_underlying hT, hs, go_sem]
    intro h
    omega
theorem run_lo {T e : TypeId} (hT : Try.prog.underlying T = some (.slice e)) (hs : ∀ w, (sizeOf e).run Try.prog w = .ok 1 w) (a : Option Addr) (len cap k : Nat) (hk : k ≤ len) (hl : len ≤ cap) (hn : a = none → cap = 0) (w : World) : (Instr.slice T (.slice a len cap) (some (.int .i64 (k : Int))) none none).run Try.prog w = .ok (.slice (shiftA a cap k) (len - k) (cap - k)) w := by
  cases a with
  | none =>
    obtain rfl : cap = 0 := hn rfl
    obtain rfl : len = 0 := by omega
    obtain rfl : k = 0 := by omega
    simp [Instr.slice, Instr.sliceBounds, Instr.sliceBound, asIntOf, run_underlying hT, hs, shiftA, go_sem]
  | some x =>
    simp [Instr.slice, Instr.sliceBounds, Instr.sliceBound, asIntOf, run_underlying hT, hs, go_sem]
    rw [if_pos hk]
    rfl
theorem RowV.take {w : World} {a : Option Addr} {n k : Nat} {f : Nat → Value} (h : RowV w a n f) (hk : k ≤ n) : RowV w a k f := by
  rcases h with rfl | ⟨b, off, ha, hlt, hc⟩
  · exact .inl (by omega)
  · exact .inr ⟨b, off, ha, hlt, fun j hj => hc j (by omega)⟩
theorem RowV.drop {w : World} {a : Option Addr} {n cap k : Nat} {f : Nat → Value} (h : RowV w a n f) (hl : n ≤ cap) (hk : k ≤ n) : RowV w (shiftA a cap k) (n - k) (fun j => f (k + j)) := by
  by_cases e : k = n
  · exact .inl (by omega)
  rcases h with h | ⟨b, off, ha, hlt, hc⟩
  · exact .inl (by omega)
  · refine .inr ⟨b, off + k, ?_, hlt, fun j hj => ?_⟩
    · unfold shiftA
      rw [if_neg (by omega), ha]
      show some (Addr.add _ _) = _
      unfold Addr.add
      split <;> simp_all
    · have := hc (k + j) (by omega)
      rwa [Nat.add_assoc]
theorem RowV.congr {w : World} {a : Option Addr} {n : Nat} {f g : Nat → Value} (h : RowV w a n f) (e : ∀ j, j < n → f j = g j) : RowV w a n g := by
  rcases h with h | ⟨b, off, ha, hlt, hc⟩
  · exact .inl h
  · exact .inr ⟨b, off, ha, hlt, fun j hj => by rw [← e j hj]; exact hc j hj⟩
theorem RowV.of_row {w : World} {g N n : Nat} {t : TypeId} {f : Nat → Value} (h : w.rowIs g t N f) (hn : n ≤ N) : RowV w (some ⟨g, 0, none⟩) n f :=
  .inr ⟨g, 0, rfl, h.lt, fun j hj => by rw [Nat.zero_add]; exact h.cell (by omega)⟩
theorem RowV.heap {w w' : World} {a : Option Addr} {n : Nat} {f : Nat → Value} (h : RowV w a n f) (hb : w'.heap = w.heap) : RowV w' a n f := by
  rcases h with h | ⟨b, off, ha, hlt, hc⟩
  · exact .inl h
  · exact .inr ⟨b, off, ha, by rw [hb]; exact hlt, fun j hj => (World.cell?_of_block (a := ⟨b, off + j, none⟩) (by rw [hb])).trans (hc j hj)⟩
/-- copy into a row of the call's own -/
theorem wpList_copyV (w : World) {ops : Array Oper} {rest : List Oper} {o : Oper} {a : Act} {Q : Exit → Act → World → Prop} (T e : TypeId) (hT : Try.prog.underlying T = some (.slice e)) (hsz : (Try.prog.info? e).map (·.size) = some 1) (hgd : o.guard = none) (d s : Operand)
    (ho : o.op = .call { callee := .builtin .copy, args := #[d, s], argTypes := #[T, T] }) (g N dn dc : Nat) (ad : Option Addr) (sn sc : Nat) (f h : Nat → Value) (hd : a.eval d = .slice (some ⟨g, 0, none⟩) dn dc) (hs : a.eval s = .slice ad sn sc)
    (hmin : sn ≤ dn) (hN : sn ≤ N) (hrow : w.rowIs g e N f) (hsrc : RowV w ad sn h) (h1 : ∀ j, j < sn → (h j).oneCell' = true)
    (hK : ∀ w', w'.rowIs g e N (fun j => if j < sn then h j else f j) → w.grownBy w' (some g) → wpList Try.prog ops Q rest (a.put o.dst (goInt sn)) w') :
    wpList Try.prog ops Q (o :: rest) a w := by
  rcases hsrc with rfl | ⟨b, off, rfl, hlt, hc⟩
  · refine wpList_copy_nothing hgd d s T T ho e hT hsz _ _ dn dc 0 sc hd hs (by simp) ?_
    refine hK w (hrow.congr (fun i _ => by simp)) ⟨rfl, rfl, rfl, Nat.le_refl _, fun _ _ _ => rfl⟩
  · obtain ⟨cur, hcur, hsize, hcell⟩ : ∃ cur, w.heap[g]? = some (.cells cur e (0, 0)) ∧ cur.size = N ∧ ∀ i, i < N → cur[i]? = some (f i) := by
      obtain ⟨c, h1, h2, h3⟩ := hrow
      exact ⟨c, h1, h2, h3⟩
    have hlen : ((List.range sn).map h).length = sn := by simp
    refine wpList_copy_own hgd d s T T ho e hT hsz g 0 dn dc ⟨b, off, none⟩ sn sc hd hs cur e hcur ((List.range sn).map h) (by rw [hlen]; simp [Nat.min_def]; omega) ?_ (by rw [hlen, hsize]; omega) ?_ ?_
    · intro j v hj
      rw [List.getElem?_map] at hj
      by_cases hjs : j < sn
      · rw [List.getElem?_range hjs] at hj
        simp at hj
        subst hj
        have e1 : (⟨b, off, none⟩ : Addr).add j = ⟨b, off + j, none⟩ := by unfold Addr.add; split <;> simp_all
        rw [e1]
        exact hc j hjs
      · rw [List.getElem?_eq_none (by simp; omega)] at hj
        cases hj
    · intro v hv
      obtain ⟨j, hj, rfl⟩ := List.mem_map.1 hv
      exact h1 j (List.mem_range.1 hj)
    · rw [hlen]
      refine hK _ ?_ ⟨rfl, rfl, rfl, by simp [World.setRow], fun k _ hk => setRow_other w g k _ (fun e => hk (by simp [e]))⟩
      refine ⟨_, setRow_heap w g cur _ e _ hcur, ?_, ?_⟩
      · simp [hsize]; omega
      · intro i hi
        simp only [List.take_zero, List.nil_append, Nat.zero_add, List.getElem?_toArray]
        by_cases his : i < sn
        · rw [List.getElem?_append_left (by rw [hlen]; exact his), List.getElem?_map, List.getElem?_range his, if_pos his]
          rfl
        · rw [List.getElem?_append_right (by rw [hlen]; omega), hlen, List.getElem?_drop, if_neg his, show sn + (i - sn) = i by omega]
          have := hcell i hi
          simpa using this
end Go.Proofs.Qxb6617582a
