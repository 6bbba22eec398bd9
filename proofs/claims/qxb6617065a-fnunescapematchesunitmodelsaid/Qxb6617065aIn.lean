import Derived.Test.Qxb6617065aCut
import Derived.Test.Qxb6617065aByte
import Derived.Laws.CopyOwn
namespace Go.Proofs.Qxb6617065a
open Go.RowKit
set_option maxHeartbeats 2000000
set_option maxRecDepth 100000
/-- a loop that appends one byte a round -/
def ApRel (W : World) (o : Nat → List Int) (lo hi : Nat) (vo vi : Value) (wr : World) : Prop :=
  ∃ i : Nat, lo ≤ i ∧ i ≤ hi ∧ vi = .int .i64 i ∧ Hid (wr.ownsRow W.heap.size 5 1 vo (o i).length (B8 (o i))) ∧ Hid (Below W.heap.size W wr)
theorem ApRel.step {W wr w1 : World} {o : Nat → List Int} {lo hi i : Nat} {v : Value} {k' : Int} (c : Int) (ho : o (i + 1) = o i ++ [c]) (h1 : lo ≤ i) (h2 : i + 1 ≤ hi) (hk : k' = (i + 1 : Nat)) (hown : w1.ownsRow W.heap.size 5 1 v ((o i).length + 1) (B8 (o i ++ [c]))) (hb : Below W.heap.size W wr) (hb1 : Below W.heap.size wr w1) :
    ApRel W o lo hi v (.int .i64 k') w1 := by
  subst hk
  refine ⟨i + 1, by omega, h2, rfl, ?_, hb.trans hb1⟩
  rw [ho, List.length_append]
  exact hown
/-- the text, copied or nil -/
def InRow (w wr : World) (A : Option Addr) (len CAP : Nat) (zs : List Int) : Prop := Below w.heap.size w wr ∧ Row8 wr A zs ∧ len ≤ CAP ∧ CAP ≤ maxLen ∧ (A = none → CAP = 0)
theorem row8_copied {w : World} {g : Nat} {zs : List Int} (hb : ∀ c ∈ zs, 0 ≤ c ∧ c ≤ 255) (t : TypeId) (h : w.heap[g]? = some (.cells (B8 zs).toArray t (0, 0))) : Row8 w (some ⟨g, 0, none⟩) zs := by
  refine .inr ⟨g, 0, rfl, (Array.getElem?_eq_some_iff.1 h).1, fun j c hj => ⟨?_, hb c (List.mem_of_getElem? hj)⟩⟩
  have hu : (B8 zs)[j]? = some (.int .u8 c) := by unfold B8; rw [List.getElem?_map, hj]; rfl
  simp [World.cell?, h, hu]
theorem make1 (n : Nat) (h : n ≤ 140737488355328) (w : World) : (Instr.makeSlice 22 (.int .i64 (n : Int)) (.int .i64 (n : Int))).run Try.prog w = .ok (.slice (some ⟨w.heap.size, 0, none⟩) n n) (w.alloc (.cells (madeCells #[.int .u8 0] n) 5)) :=
  run_make_row' (P := Try.prog) 22 5 (.int .u8 0) 1 Try.underlying22 Try.info5 rfl .i64 .i64 n (by omega) (by omega) w
theorem wpList_copy8 (w : World) {ops : Array Oper} {rest : List Oper} {o : Oper} {a : Act} {Q : Exit → Act → World → Prop} (hgd : o.guard = none) (d s : Operand)
    (ho : o.op = .call { callee := .builtin .copy, args := #[d, s], argTypes := #[22, 22] }) (x : Addr) (len cap : Nat) (zs : List Int) (hlen : zs.length = len)
    (hd : a.eval d = .slice (some ⟨w.heap.size, 0, none⟩) len len) (hs : a.eval s = .slice (some x) len cap) (h1 : Row8 w (some x) zs)
    (h : ∀ w', Row8 w' (some ⟨w.heap.size, 0, none⟩) zs → Below w.heap.size w w' → wpList Try.prog ops Q rest (a.put o.dst (goInt len)) w') :
    wpList Try.prog ops Q (o :: rest) a (w.alloc (.cells (madeCells #[.int .u8 0] len) 5)) := by
  have hlenB : (B8 zs).length = len := by rw [B8_len, hlen]
  have hsz : (Try.prog.info? 5).map (·.size) = some 1 := by kernel_rfl
  have hm : madeCells #[.int .u8 0] len = (List.replicate len (Value.int .u8 0)).toArray := by
    apply Array.ext
    · simp [madeCells]
    · intro i h2 h3
      simp [madeCells, Nat.mod_one]
  refine wpList_copy_splice hgd d s 22 22 ho 5 Try.underlying22 hsz _ _ len len len cap hd hs w.heap.size 0 (List.replicate len (.int .u8 0)) 5 ?_ (B8 zs) ?_ ?_ ?_ (B8_one zs) w.heap.size w (below1 w _) (Nat.le_refl _) ?_
  · rw [hm]; exact heap_alloc_new _ _
  · rw [hlenB]; simp
  · intro _
    refine ⟨rfl, x, rfl, fun j v hj => ?_⟩
    rcases h1 with e | ⟨b, off, ha, hlt, hc⟩
    · subst e; simp [B8] at hj
    · simp at ha
      subst ha
      unfold B8 at hj
      rw [List.getElem?_map] at hj
      cases hz : zs[j]? with
      | none => rw [hz] at hj; simp at hj
      | some c =>
        rw [hz] at hj
        simp at hj
        subst hj
        have e1 : (⟨b, off, none⟩ : Addr).add j = ⟨b, off + j, none⟩ := by unfold Addr.add; split <;> simp_all
        rw [e1]
        exact ((below1 w _).cell (p := ⟨b, off + j, none⟩) hlt).trans (hc j c hz).1
  · rw [hlenB]; simp
  · intro w' hh hb
    rw [hlenB]
    refine h w' (row8_copied h1.byte 5 ?_) hb
    have e : splice (List.replicate len (Value.int .u8 0)) 0 (B8 zs) = B8 zs := by
      unfold splice
      rw [hlenB]
      simp
    rw [← e]
    exact hh.out
end Go.Proofs.Qxb6617065a
