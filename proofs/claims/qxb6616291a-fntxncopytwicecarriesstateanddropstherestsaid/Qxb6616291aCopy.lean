import Derived.Test.Qxb6616291aTxn
namespace Go.Proofs.Qxb6616291a
open Go.RowKit
set_option maxHeartbeats 400000
set_option maxRecDepth 100000
/-- a slice of branches lies in memory: nil, or at the head of a block -/
def RowAt (w : World) (a : Option Addr) (n : Nat) (f : Nat → Value) : Prop :=
  (a = none ∧ n = 0) ∨ ∃ b, a = some ⟨b, 0, none⟩ ∧ b < w.heap.size ∧ ∀ j, j < n * 10 → w.cell? ⟨b, j, none⟩ = some (f j)
theorem RowAt.below {w w' : World} {a : Option Addr} {n : Nat} {f : Nat → Value} (h : RowAt w a n f) (hb : Below w.heap.size w w') : RowAt w' a n f := by
  rcases h with h | ⟨b, ha, hlt, hc⟩
  · exact .inl h
  · exact .inr ⟨b, ha, Nat.lt_of_lt_of_le hlt hb.size, fun j hj => (hb.cell (p := ⟨b, j, none⟩) hlt).trans (hc j hj)⟩
theorem RowAt.of_rowIs {w : World} {b n : Nat} {f : Nat → Value} (h : w.rowIs b 69 (n * 10) f) : RowAt w (some ⟨b, 0, none⟩) n f :=
  .inr ⟨b, rfl, h.lt, fun _ hj => h.cell hj⟩
theorem clone52_nil (w : World) : Calls Try.prog 52 #[.slice none 0 0] w fun e w' => e = .returned (.slice none 0 0) ∧ w' = w := by
  have hnil := fun (w : World) (a : Option Addr) (n c : Nat) => Lib.run_eql_slice_nil (P := Try.prog) w 58 69 a n c 0 0 Try.underlying58
  go_enter Try.func52, Try.ntmps52
  go_wp2
  go_ret
  exact ⟨rfl, rfl⟩
theorem own_end {w w1 : World} {n : Nat} {f : Nat → Value} {v' : Value} {row : Option Nat} (hrow : ∀ k, row = some k → w.heap.size ≤ k) (hne : v' ≠ .slice none 0 0)
    (hown : w1.ownsRow w.heap.size 69 10 v' (0 + n) ([] ++ (List.range (n * 10)).map f)) (hgrow : (w.alloc (Obj.cells #[] 69)).grownBy w1 row) :
    ∃ g cap, v' = .slice (some ⟨g, 0, none⟩) n cap ∧ w.heap.size ≤ g ∧ g < w1.heap.size ∧ Below w.heap.size w w1 ∧ ∀ j, j < n * 10 → w1.cell? ⟨g, j, none⟩ = some (f j) := by
  rcases hown.2 with ⟨h, _⟩ | ⟨g, cap, cur, hv, hg, hh, _, _, _, ht⟩
  · exact absurd h hne
  · refine ⟨g, cap, by simpa using hv, hg, (Array.getElem?_eq_some_iff.1 hh).1, (below1 w _).grown hgrow (by simp) hrow, fun j hj => ?_⟩
    rw [Nat.zero_add, List.nil_append] at ht
    have : cur[j]? = some (f j) := by
      have h2 : (cur.toList.take (n * 10))[j]? = some (f j) := by rw [ht]; simp [hj]
      rw [List.getElem?_take, if_pos hj] at h2
      simpa using h2
    simp [World.cell?, hh, this]
theorem clone52_some (b n c : Nat) (f : Nat → Value) (w : World) (hn : n ≤ 65536) (hb : b < w.heap.size) (hc : ∀ j, j < n * 10 → w.cell? ⟨b, j, none⟩ = some (f j)) (h1 : ∀ j, j < n * 10 → (f j).oneCell' = true) :
    Calls Try.prog 52 #[.slice (some ⟨b, 0, none⟩) n c] w fun e w' => ∃ g cap, e = .returned (.slice (some ⟨g, 0, none⟩) n cap) ∧ w.heap.size ≤ g ∧ g < w'.heap.size ∧ Below w.heap.size w w' ∧ ∀ j, j < n * 10 → w'.cell? ⟨g, j, none⟩ = some (f j) := by
  have hnil := fun (w : World) (a : Option Addr) (n c : Nat) => Lib.run_eql_slice_nil (P := Try.prog) w 58 69 a n c 0 0 Try.underlying58
  obtain ⟨i0, hi, hz0, hz1, hz2⟩ := info_parts Try.info69
  have hown : (w.alloc (.cells #[] 69)).ownsRow w.heap.size 69 10 (.slice (some ⟨w.heap.size, 0, none⟩) 0 0) 0 [] := World.ownsRow_made (size := 10) (base := w.heap.size) w #[] 0 (Nat.le_refl _) (Nat.zero_le _) rfl
  have hnews : ∀ j u, ((List.range (n * 10)).map f)[j]? = some u → (w.alloc (.cells #[] 69)).cell? ((⟨b, 0, none⟩ : Addr).add j) = some u := by
    intro j u hj
    by_cases hlt : j < n * 10
    · have hu : f j = u := by simpa [hlt] using hj
      subst hu
      have := ((below1 w (.cells #[] 69)).cell (p := ⟨b, j, none⟩) hb).trans (hc j hlt)
      have hadd : (⟨b, 0, none⟩ : Addr).add j = ⟨b, j, none⟩ := by unfold Addr.add; split <;> simp_all
      rw [hadd]
      exact this
    · simp [hlt] at hj
  have hone : ∀ u ∈ (List.range (n * 10)).map f, u.oneCell' = true := by
    intro u hu
    obtain ⟨j, hj, rfl⟩ := List.mem_map.1 hu
    exact h1 j (List.mem_range.1 hj)
  clear hc h1
  go_enter Try.func52, Try.ntmps52
  go_wp2_with (at_builtin; refine wpList_append_own _ rfl _ _ 58 rfl w.heap.size 69 i0 _ 10 152 Try.underlying58 hi hz0 hz1 hz2 rfl (by decide) _ _ _ rfl hown ⟨b, 0, none⟩ n c ((List.range (n * 10)).map f) rfl (by simp) hnews hone (by unfold maxLen; omega) (by omega) (by simp) ?_; intro v' w1 hown' hgrow hnn)
  have hne : v' ≠ .slice none 0 0 := fun h => by have := (hnn.1 h).1; simp [Act.eval] at this
  obtain ⟨g, cap, hv, h2, h3, h4, h5⟩ := own_end (by intro k hk; simp [Act.eval, Value.ownBlock] at hk; omega) hne hown' hgrow
  clear hown' hgrow hnn hown hnews hone
  subst hv
  go_ret
  exact ⟨g, cap, rfl, h2, h3, h4, h5⟩
theorem clone52_any (a : Option Addr) (n c : Nat) (f : Nat → Value) (w : World) (hn : n ≤ 65536) (hr : RowAt w a n f) (ha : a = none → c = 0) (h1 : ∀ j, j < n * 10 → (f j).oneCell' = true) :
    Calls Try.prog 52 #[.slice a n c] w fun e w' => ∃ a' c', e = .returned (.slice a' n c') ∧ a'.isNone = a.isNone ∧ (a' = none → c' = 0) ∧ Below w.heap.size w w' ∧ RowAt w' a' n f ∧ ∀ x, a' = some x → w.heap.size ≤ x.block := by
  rcases hr with ⟨rfl, rfl⟩ | ⟨b, rfl, hlt, hc⟩
  · obtain rfl := ha rfl
    refine (clone52_nil w).mono ?_
    rintro e w' ⟨rfl, rfl⟩
    exact ⟨none, 0, rfl, rfl, fun _ => rfl, Below.refl _ _, .inl ⟨rfl, rfl⟩, fun x hx => by cases hx⟩
  · refine (clone52_some b n c f w hn hlt hc h1).mono ?_
    rintro e w' ⟨g, cap, rfl, h2, h3, h4, h5⟩
    exact ⟨_, cap, rfl, rfl, (fun h => by cases h), h4, .inr ⟨g, rfl, h3, h5⟩, fun x hx => by cases hx; exact h2⟩
/-- what a copy of a transaction holds -/
def TV.copied (t : TV) (ba : Option Addr) (bc : Nat) : TV := { t with ba := ba, bc := bc, nx := none, wt := 0, ra := none, rl := 0, rc := 0 }
theorem copy_any (g : Nat) (t : TV) (f : Nat → Value) (w : World) (h : TxnAt w g t) (hn : t.bl ≤ 65536) (hr : RowAt w t.ba t.bl f) (ha : t.ba = none → t.bc = 0) (h1 : ∀ j, j < t.bl * 10 → (f j).oneCell' = true) :
    Calls Try.prog 45 #[.pointer (some ⟨g, 0, none⟩)] w fun e w' => ∃ g' a' c', e = .returned (.pointer (some ⟨g', 0, none⟩)) ∧ w.heap.size ≤ g' ∧ Below w.heap.size w w' ∧ TxnAt w' g' (t.copied a' c') ∧ a'.isNone = t.ba.isNone ∧ (a' = none → c' = 0) ∧ RowAt w' a' t.bl f ∧ (∀ x, a' = some x → w.heap.size ≤ x.block) := by
  obtain ⟨c2, c3, c4, c5, c6, c7, c8, c9, c10, c11, c12, c13, c14, c15, c16, c17, c18, c19⟩ := h.all
  have hlt := h.lt
  clear h c9 c17 c18 c19
  go_enter Try.func45, Try.ntmps45
  go_wp2
  go_region_held3 (fun w' => w'.cell? ⟨g, 2, none⟩ = some (.string t.x) ∧ w'.cell? ⟨g, 3, none⟩ = some (.string t.st) ∧ w'.cell? ⟨g, 4, none⟩ = some (.pointer t.dp) ∧ w'.cell? ⟨g, 5, none⟩ = some (.slice t.ba t.bl t.bc) ∧
    w'.cell? ⟨g, 6, none⟩ = some (.int .u64 t.a1) ∧ w'.cell? ⟨g, 7, none⟩ = some (.int .i64 t.a2) ∧ w'.cell? ⟨g, 8, none⟩ = some (.pointer none) ∧ w'.cell? ⟨g, 10, none⟩ = some (.int .u64 t.seq) ∧
    w'.cell? ⟨g, 11, none⟩ = some (.int .u64 t.b1) ∧ w'.cell? ⟨g, 12, none⟩ = some (.int .i64 t.b2) ∧ w'.cell? ⟨g, 13, none⟩ = some (.pointer none) ∧
    w'.cell? ⟨g, 14, none⟩ = some (.int .u64 t.c1) ∧ w'.cell? ⟨g, 15, none⟩ = some (.int .i64 t.c2) ∧ w'.cell? ⟨g, 16, none⟩ = some (.pointer none)) (go_keep)
    (first | (go_at_call 52; refine (clone52_any _ _ _ f _ hn (by exact hr) ha h1).mono ?_; rintro e w1 ⟨a', c', rfl, q1, q2, q3, q4, q5⟩; have hcc : ∀ o, w1.cell? ⟨g, o, none⟩ = w.cell? ⟨g, o, none⟩ := (fun o => q3.cell (p := ⟨g, o, none⟩) hlt)))
  go_wp2
  go_ret
  have q3' : Below w.heap.size w w1 := (Below.refl w.heap.size w).drew.trans q3
  exact ⟨w1.heap.size, a', c', rfl, q3'.size, q3'.alloc q3'.size _, heap_alloc_new _ _, q1, q2, q4.below (below1 _ _), q5⟩
/-- ZZcopyTxn -/
theorem zzcopy_any (g : Nat) (t : TV) (f : Nat → Value) (w : World) (h : TxnAt w g t) (hn : t.bl ≤ 65536) (hr : RowAt w t.ba t.bl f) (ha : t.ba = none → t.bc = 0) (h1 : ∀ j, j < t.bl * 10 → (f j).oneCell' = true) :
    Calls Try.prog 32 #[.pointer (some ⟨g, 0, none⟩)] w fun e w' => ∃ g' a' c', e = .returned (.pointer (some ⟨g', 0, none⟩)) ∧ w.heap.size ≤ g' ∧ Below w.heap.size w w' ∧ TxnAt w' g' (t.copied a' c') ∧ a'.isNone = t.ba.isNone ∧ (a' = none → c' = 0) ∧ RowAt w' a' t.bl f ∧ (∀ x, a' = some x → w.heap.size ≤ x.block) := by
  go_enter Try.func32, Try.ntmps32
  go_wp2_with fail
  refine (copy_any g t f _ h hn hr ha h1).mono ?_
  rintro e w1 ⟨g', a', c', rfl, q⟩
  go_wp2
  go_ret
  exact ⟨g', a', c', rfl, q⟩
end Go.Proofs.Qxb6616291a
