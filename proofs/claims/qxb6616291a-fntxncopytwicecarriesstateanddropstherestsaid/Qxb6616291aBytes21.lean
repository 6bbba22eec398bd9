import Derived.Test.Qxb6616291aIn
namespace Go.Proofs.Qxb6616291a
open Go.RowKit
set_option maxHeartbeats 4000000
set_option maxRecDepth 100000
theorem zzBytes21_none (t : Tx) (w : World) (h : t.Ok w) (hdp : t.dp = none) :
    Calls Try.prog 21 #[t.val] w fun e w' => AnyBool e ∧ Below w.heap.size w w' := by
  obtain ⟨hx, hst, -, -, -, -, hbl, -, hb, hrl, -, -⟩ := h
  unfold maxLen at hx hst hbl hrl
  unfold Tx.val
  rw [hdp]
  clear hdp
  have hbel : ∀ o, Below w.heap.size w (w.alloc o) := fun o => below1 w o
  have Hb : Hid (∀ o, BrsAt (w.alloc o) t.ba t.bl t.B) := fun o => hb.below (hbel o)
  have Hbel : Hid (∀ o, Below w.heap.size w (w.alloc o)) := hbel
  clear hb hbel
  go_enter Try.func21, Try.ntmps21
  go_wp2_with fail
  any_goals (go_ret; exact ⟨⟨_, rfl⟩, Hbel.out _⟩)
  generalize hW : w.alloc _ = W
  have hB : Below w.heap.size w W := by rw [← hW]; exact Hbel.out _
  have hb : BrsAt W t.ba t.bl t.B := by rw [← hW]; exact Hb.out _
  have hWc : W.cell? ⟨w.heap.size, 7, none⟩ = some (.slice t.ba t.bl t.bc) := by rw [← hW]; simp
  have hWc10 : W.cell? ⟨w.heap.size, 10, none⟩ = some (.slice t.ra t.rl t.rc) := by rw [← hW]; simp
  clear hW Hb Hbel
  go_loop [3, 4] (fun n i => ∃ (k : Nat) (m : Int), k ≤ t.bl ∧ i = .int .i64 k ∧ n = .int .i64 m ∧ 0 ≤ m ∧ m ≤ 1048576) (fun _ i => t.bl - (intOf i).toNat)
  case atStart => exact ⟨0, _, Nat.zero_le _, rfl, rfl, by omega, by omega⟩
  case round =>
    obtain ⟨k, m, hk, rfl, rfl, hm0, hm1⟩ := hrel
    by_cases hlt : k < t.bl
    · obtain ⟨b, off, ha, hbl, c0, c1, c2, c3, c4, c5, c6, c7, c8, c9, hok⟩ := hb.ten hlt
      rw [ha] at hWc
      clear hb ha c0 c8 hWc10
      obtain ⟨o1, o2, o3, o4, o6, o7, o9, ol, -, -⟩ := hok
      unfold maxLen at o1 o2 o3 o4 o6 o7 o9 ol
      go_wp2
      any_goals (go_ret; exact ⟨⟨_, rfl⟩, hB⟩)
      go_round
      case rel => exact ⟨k + 1, _, by omega, by go_num, rfl, by omega, by omega⟩
      case measure => simp [intOf]; omega
    · clear hb
      go_wp2
      all_goals (go_ret; exact ⟨⟨_, rfl⟩, hB⟩)
theorem zzBytes21_some (t : Tx) (w : World) (h : t.Ok w) (d : Addr) (hdp : t.dp = some d) :
    Calls Try.prog 21 #[t.val] w fun e w' => AnyBool e ∧ Below w.heap.size w w' := by
  obtain ⟨hx, hst, hd, -, -, -, hbl, -, hb, hrl, -, -⟩ := h
  unfold maxLen at hx hst hbl hrl
  obtain ⟨db, dof, rfl, hdlt, e0, e1, e2, e3, e4, d0, d1, d2, d3, d4, l0, l1, l2, l3, l4⟩ := hd d hdp
  unfold maxLen at l0 l1 l2 l3 l4
  unfold Tx.val
  rw [hdp]
  clear hdp hd
  have hbel : ∀ o, Below w.heap.size w (w.alloc o) := fun o => below1 w o
  have Hb : Hid (∀ o, BrsAt (w.alloc o) t.ba t.bl t.B) := fun o => hb.below (hbel o)
  have Hbel : Hid (∀ o, Below w.heap.size w (w.alloc o)) := hbel
  clear hb hbel
  go_enter Try.func21, Try.ntmps21
  go_wp2_with fail
  any_goals (go_ret; exact ⟨⟨_, rfl⟩, Hbel.out _⟩)
  generalize hW : w.alloc _ = W
  have hB : Below w.heap.size w W := by rw [← hW]; exact Hbel.out _
  have hb : BrsAt W t.ba t.bl t.B := by rw [← hW]; exact Hb.out _
  have hWc : W.cell? ⟨w.heap.size, 7, none⟩ = some (.slice t.ba t.bl t.bc) := by rw [← hW]; simp
  have hWc10 : W.cell? ⟨w.heap.size, 10, none⟩ = some (.slice t.ra t.rl t.rc) := by rw [← hW]; simp
  clear hW Hb Hbel
  go_loop [3, 4] (fun n i => ∃ (k : Nat) (m : Int), k ≤ t.bl ∧ i = .int .i64 k ∧ n = .int .i64 m ∧ 0 ≤ m ∧ m ≤ 1048576) (fun _ i => t.bl - (intOf i).toNat)
  case atStart => exact ⟨0, _, Nat.zero_le _, rfl, rfl, by omega, by omega⟩
  case round =>
    obtain ⟨k, m, hk, rfl, rfl, hm0, hm1⟩ := hrel
    by_cases hlt : k < t.bl
    · obtain ⟨b, off, ha, hbl, c0, c1, c2, c3, c4, c5, c6, c7, c8, c9, hok⟩ := hb.ten hlt
      rw [ha] at hWc
      clear hb ha c0 c8 hWc10
      obtain ⟨o1, o2, o3, o4, o6, o7, o9, ol, -, -⟩ := hok
      unfold maxLen at o1 o2 o3 o4 o6 o7 o9 ol
      go_wp2
      any_goals (go_ret; exact ⟨⟨_, rfl⟩, hB⟩)
      go_round
      case rel => exact ⟨k + 1, _, by omega, by go_num, rfl, by omega, by omega⟩
      case measure => simp [intOf]; omega
    · clear hb
      go_wp2
      all_goals (go_ret; exact ⟨⟨_, rfl⟩, hB⟩)
theorem zzBytes21_any (t : Tx) (w : World) (h : t.Ok w) :
    Calls Try.prog 21 #[t.val] w fun e w' => AnyBool e ∧ Below w.heap.size w w' := by
  cases hdp : t.dp with
  | none => exact zzBytes21_none t w h hdp
  | some d => exact zzBytes21_some t w h d hdp
end Go.Proofs.Qxb6616291a
