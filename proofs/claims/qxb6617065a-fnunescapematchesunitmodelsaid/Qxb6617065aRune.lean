import Derived.Test.Qxb6617065aLeaf
import Derived.Laws.AppendOwn
namespace Go.Proofs.Qxb6617065a
open Go.RowKit
set_option maxHeartbeats 400000
set_option maxRecDepth 100000
theorem Try.info5 : (Try.prog.info? 5).map (fun i => (i.zero, i.size, i.bytes)) = some (some (.int .u8 0), 1, 1) := by kernel_rfl
/-- the bytes as values -/
def B8 (xs : List Int) : List Value := xs.map (Value.int .u8)
theorem B8_len (xs : List Int) : (B8 xs).length = xs.length := by simp [B8]
theorem B8_app (xs ys : List Int) : B8 (xs ++ ys) = B8 xs ++ B8 ys := by simp [B8]
theorem B8_one (xs : List Int) : ∀ u ∈ B8 xs, u.oneCell' = true := by
  intro u hu
  obtain ⟨x, -, rfl⟩ := List.mem_map.1 hu
  rfl
theorem below1 (w : World) (o : Obj) : Below w.heap.size w (w.alloc o) := (Below.refl _ _).alloc (Nat.le_refl _) _
theorem news_cells (w : World) (vs : List Value) (t : TypeId) : ∀ j u, vs[j]? = some u → (w.alloc (.cells vs.toArray t)).cell? ((⟨w.heap.size, 0, none⟩ : Addr).add j) = some u := by
  intro j u hu
  have hadd : (⟨w.heap.size, 0, none⟩ : Addr).add j = ⟨w.heap.size, j, none⟩ := by unfold Addr.add; split <;> simp_all
  rw [hadd, World.cell?_alloc_mark]
  simpa using hu
/-- bytes appended to a row of the call's own: the law at the list of operations -/
theorem wpList_app8 (w : World) {ops : Array Oper} {rest : List Oper} {o : Oper} {a : Act} {Q : Exit → Act → World → Prop} (hgd : o.guard = none) (s x : Operand)
    (ho : o.op = .call { callee := .builtin .append, args := #[s, x], argTypes := #[22, 22] }) (B : Nat) (v : Value) (n : Nat) (xs ys : List Int) (hs : a.eval s = v) (hown : w.ownsRow B 5 1 v n (B8 xs))
    (hx : a.eval x = .slice (some ⟨w.heap.size, 0, none⟩) ys.length ys.length) (hby : n + ys.length ≤ 140737488355328) (hB : B ≤ w.heap.size)
    (h : ∀ v' w', w'.ownsRow B 5 1 v' (n + ys.length) (B8 (xs ++ ys)) → Below B w w' → wpList Try.prog ops Q rest (a.put o.dst v') w') : wpList Try.prog ops Q (o :: rest) a (w.alloc (.cells (B8 ys).toArray 5)) := by
  obtain ⟨i0, hi, hz0, hz1, hz2⟩ := info_parts Try.info5
  refine wpList_append_own _ hgd s x 22 ho B 5 i0 _ 1 1 Try.underlying22 hi hz0 hz1 hz2 rfl (by decide) v n (B8 xs) hs (hown.alloc _) ⟨w.heap.size, 0, none⟩ ys.length ys.length (B8 ys) hx (by rw [B8_len, Nat.mul_one]) (news_cells w (B8 ys) 5) (B8_one ys) (by unfold maxLen; omega) (by omega) (by simp; omega) ?_
  intro v' w1 hown' hgrow _
  refine h v' w1 (by rw [B8_app]; exact hown') ?_
  exact ((Below.refl B w).alloc hB _).grown hgrow (by simp; omega) (fun k e => (hown.lt k e).1)
theorem rune_any (B : Nat) (v : Value) (n : Nat) (xs : List Int) (r : Int) (w : World) (hown : w.ownsRow B 5 1 v n (B8 xs)) (hB : B ≤ w.heap.size) (hn : n + 4 ≤ 140737488355328) (h0 : 0 ≤ r) (h1 : r ≤ 1114111) (hs : ¬ (55296 ≤ r ∧ r < 57344)) :
    Calls Try.prog 20 #[v, .int .i32 r] w fun e w' => ∃ v', e = .returned v' ∧ w'.ownsRow B 5 1 v' (n + (utf8 r).length) (B8 (xs ++ utf8 r)) ∧ Below B w w' := by
  have HO : Hid (w.ownsRow B 5 1 v n (B8 xs)) := hown
  clear hown
  unfold utf8
  by_cases a1 : r < 128
  · rw [if_pos a1]
    go_enter Try.func20, Try.ntmps20
    go_wp2_with (at_builtin; refine wpList_app8 w rfl _ _ rfl B v n xs [r] rfl HO.out rfl (by simp; omega) hB ?_; intro v' w1 hown1 hb1)
    go_ret
    exact ⟨v', rfl, hown1, hb1⟩
  rw [if_neg a1]
  by_cases a2 : r < 2048
  · rw [if_pos a2]
    go_enter Try.func20, Try.ntmps20
    go_wp2_with (first | (at_builtin; refine wpList_app8 w rfl _ _ rfl B v n xs [192 + r / 64, 128 + r % 64] rfl HO.out rfl (by simp; omega) hB ?_; intro v' w1 hown1 hb1) | go_in)
    go_ret
    exact ⟨v', rfl, hown1, hb1⟩
  rw [if_neg a2]
  by_cases a3 : r < 65536
  · rw [if_pos a3]
    by_cases a4 : r < 55296
    · go_enter Try.func20, Try.ntmps20
      go_wp2_with (first | (at_builtin; refine wpList_app8 w rfl _ _ rfl B v n xs [224 + r / 4096, 128 + r / 64 % 64, 128 + r % 64] rfl HO.out rfl (by simp; omega) hB ?_; intro v' w1 hown1 hb1) | go_in)
      go_ret
      exact ⟨v', rfl, hown1, hb1⟩
    · have a5 : 57344 ≤ r := by omega
      go_enter Try.func20, Try.ntmps20
      go_wp2_with (first | (at_builtin; refine wpList_app8 w rfl _ _ rfl B v n xs [224 + r / 4096, 128 + r / 64 % 64, 128 + r % 64] rfl HO.out rfl (by simp; omega) hB ?_; intro v' w1 hown1 hb1) | go_in)
      go_ret
      exact ⟨v', rfl, hown1, hb1⟩
  rw [if_neg a3]
  have a5 : 65536 ≤ r := by omega
  go_enter Try.func20, Try.ntmps20
  go_wp2_with (first | (at_builtin; refine wpList_app8 w rfl _ _ rfl B v n xs [240 + r / 262144, 128 + r / 4096 % 64, 128 + r / 64 % 64, 128 + r % 64] rfl HO.out rfl (by simp; omega) hB ?_; intro v' w1 hown1 hb1) | go_in)
  go_ret
  exact ⟨v', rfl, hown1, hb1⟩
end Go.Proofs.Qxb6617065a
