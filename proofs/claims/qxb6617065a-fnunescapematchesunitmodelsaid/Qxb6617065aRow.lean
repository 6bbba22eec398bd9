import Derived.Test.Qxb6617065aUtf
namespace Go.Proofs.Qxb6617065a
open Go.RowKit
set_option maxHeartbeats 400000
set_option maxRecDepth 100000
theorem below_drewN {w w' : World} (h : Below w.heap.size w w') : ∀ n, Below w.heap.size w (w'.drewN n) := by
  intro n
  exact ⟨h.os, h.tape, h.output, h.size, h.block⟩
/-- the bytes of a slice lie in memory -/
def Row8 (w : World) (a : Option Addr) (zs : List Int) : Prop :=
  zs = [] ∨ ∃ b off, a = some ⟨b, off, none⟩ ∧ b < w.heap.size ∧ ∀ j c, zs[j]? = some c → w.cell? ⟨b, off + j, none⟩ = some (.int .u8 c) ∧ 0 ≤ c ∧ c ≤ 255
theorem Row8.below {w w' : World} {a : Option Addr} {zs : List Int} (h : Row8 w a zs) (hb : Below w.heap.size w w') : Row8 w' a zs := by
  rcases h with h | ⟨b, off, ha, hlt, hc⟩
  · exact .inl h
  · exact .inr ⟨b, off, ha, Nat.lt_of_lt_of_le hlt hb.size, fun j c hj => ⟨(hb.cell (p := ⟨b, off + j, none⟩) hlt).trans (hc j c hj).1, (hc j c hj).2⟩⟩
theorem Row8.at {w : World} {a : Option Addr} {zs : List Int} (h : Row8 w a zs) {k : Nat} (hk : k < zs.length) : ∃ b off c, a = some ⟨b, off, none⟩ ∧ b < w.heap.size ∧ zs[k]? = some c ∧ w.cell? ⟨b, off + k, none⟩ = some (.int .u8 c) ∧ 0 ≤ c ∧ c ≤ 255 := by
  rcases h with rfl | ⟨b, off, ha, hlt, hc⟩
  · simp at hk
  · exact ⟨b, off, zs[k], ha, hlt, List.getElem?_eq_getElem hk, hc k _ (List.getElem?_eq_getElem hk)⟩
theorem bytesEqual_true (a1 a2 : Option Addr) (zs : List Int) (len c1 c2 : Nat) (w : World) (hlen : Hid (zs.length = len)) (hl : len ≤ 140737488351232) (h1 : Row8 w a1 zs) (h2 : Row8 w a2 zs) :
    Calls Try.prog 9 #[.slice a1 len c1, .slice a2 len c2] w fun e w' => e = .returned (.bool true) ∧ Below w.heap.size w w' := by
  have hll : ((len : Int) != (len : Int)) = false := by simp
  have H1 : Hid (Row8 w a1 zs) := h1
  have H2 : Hid (Row8 w a2 zs) := h2
  clear h1 h2
  go_enter Try.func9, Try.ntmps9
  go_wp2
  go_loopw [5] (fun i wr => ∃ k : Nat, k ≤ len ∧ i = .int .i64 k ∧ ∃ n, wr = w.drewN n) (fun i _ => len - (intOf i).toNat)
  case atStart => exact ⟨0, Nat.zero_le _, rfl, 0, rfl⟩
  case round =>
    obtain ⟨k, hk, rfl, nn, rfl⟩ := hrel
    by_cases hlt : k < len
    · obtain ⟨b, off, c, rfl, hbl, hz, hc, hc0, hc1⟩ := H1.out.at (k := k) (by rw [hlen.out]; exact hlt)
      obtain ⟨b', off', c', rfl, hbl', hz', hc', -, -⟩ := H2.out.at (k := k) (by rw [hlen.out]; exact hlt)
      obtain rfl : c = c' := by simpa [hz] using hz'
      have hlt' : (k : Int) < (len : Int) := by omega
      have hzz : (c != c) = false := by simp
      clear H1 H2 hz hz' hc0 hc1
      go_wp2
      go_quiet (fail)
      go_wp2
      go_roundw
      case rel => exact ⟨k + 1, by omega, by go_num, _, rfl⟩
      case measure => simp [intOf]; omega
    · go_wp2
      go_ret
      exact ⟨rfl, below_drewN (Below.refl _ _) _⟩
theorem ret_bool {a b : Bool} (h : a = b) : Ending.returned (.bool a) = .returned (.bool b) := by rw [h]
theorem hasBackslash_any (a : Option Addr) (zs : List Int) (len cap : Nat) (w : World) (hlen : Hid (zs.length = len)) (hl : len ≤ 140737488351232) (h1 : Row8 w a zs) :
    Calls Try.prog 12 #[.slice a len cap] w fun e w' => e = .returned (.bool (decide (92 ∈ zs))) ∧ w' = w := by
  have H1 : Hid (Row8 w a zs) := h1
  clear h1
  go_enter Try.func12, Try.ntmps12
  go_wp2
  go_loop [3] (fun i => ∃ k : Nat, k ≤ len ∧ i = .int .i64 k ∧ ∀ j, j < k → zs[j]? ≠ some 92) (fun i => len - (intOf i).toNat)
  case atStart => exact ⟨0, Nat.zero_le _, rfl, fun j hj => by omega⟩
  case round =>
    obtain ⟨k, hk, rfl, hno⟩ := hrel
    have Hno : Hid (∀ j, j < k → zs[j]? ≠ some 92) := hno
    clear hno
    by_cases hlt : k < len
    · obtain ⟨b, off, c, rfl, hbl, hz, hc, hc0, hc1⟩ := H1.out.at (k := k) (by rw [hlen.out]; exact hlt)
      have Hz : Hid (zs[k]? = some c) := hz
      have hlt' : (k : Int) < (len : Int) := by omega
      clear H1 hz
      by_cases h92 : c = 92
      · subst h92
        have hmem : Hid (decide (92 ∈ zs) = true) := decide_eq_true (List.mem_of_getElem? Hz.out)
        go_wp2
        go_ret
        exact ⟨ret_bool hmem.out.symm, rfl⟩
      · have hb : (c == 92) = false := beq_eq_false_iff_ne.2 h92
        go_wp2
        go_round
        case rel =>
          refine ⟨k + 1, by omega, by go_num, fun j hj => ?_⟩
          by_cases e : j = k
          · subst e
            rw [Hz.out]
            simpa using h92
          · exact Hno.out j (by omega)
        case measure => simp [intOf]; omega
    · have hmem : Hid (decide (92 ∈ zs) = false) := decide_eq_false (fun h => by
        obtain ⟨j, hj, e⟩ := List.mem_iff_getElem.1 h
        exact Hno.out j (by have := hlen.out; omega) (by rw [List.getElem?_eq_getElem hj, e]))
      go_wp2
      go_ret
      exact ⟨ret_bool hmem.out.symm, rfl⟩
/-- the bound on the total length -/
theorem bytes5_any (a : Option Addr) (len cap : Nat) (w : World) (hl : len ≤ maxLen) : Calls Try.prog 5 #[.slice a len cap] w fun e w' => e = .returned (.bool (decide (len ≤ 1048576))) ∧ w' = w := by
  unfold maxLen at hl
  by_cases h : len ≤ 1048576
  · rw [decide_eq_true h]
    go_enter Try.func5, Try.ntmps5
    go_wp2
    go_ret
    exact ⟨rfl, rfl⟩
  · rw [decide_eq_false h]
    go_enter Try.func5, Try.ntmps5
    go_wp2
    go_ret
    exact ⟨rfl, rfl⟩
theorem bytes10_any (a : Option Addr) (len cap : Nat) (k c : Int) (w : World) (hl : len ≤ maxLen) : Calls Try.prog 10 #[.slice a len cap, .int .i64 k, .int .u8 c] w fun e w' => e = .returned (.bool (decide (len ≤ 1048576))) ∧ w' = w := by
  unfold maxLen at hl
  by_cases h : len ≤ 1048576
  · rw [decide_eq_true h]
    go_enter Try.func10, Try.ntmps10
    go_wp2
    go_ret
    exact ⟨rfl, rfl⟩
  · rw [decide_eq_false h]
    go_enter Try.func10, Try.ntmps10
    go_wp2
    go_ret
    exact ⟨rfl, rfl⟩
end Go.Proofs.Qxb6617065a
