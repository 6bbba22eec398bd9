import Derived.Test.Qxb6617065aProg
import Derived.Test.Qxb6617065aPlain
import Derived.WalkKit
import Derived.BigQuiet
import Derived.Deep.QuietTactic
import Derived.Deep.OwnRows
import Derived.WalkSpells
import Derived.WalkSmall
namespace Go.Proofs.Qxb6617065a
open Go.RowKit
set_option maxHeartbeats 400000
set_option maxRecDepth 100000
theorem ret_int {k : IntKind} {a b : Int} (h : a = b) : Ending.returned (.int k a) = .returned (.int k b) := by rw [h]
theorem hexValue_any (c : Int) (w : World) (h0 : 0 ≤ c) (h1 : c ≤ 255) : Calls Try.prog 13 #[.int .u8 c] w fun e w' => e = .returned (.int .i64 (hexV c)) ∧ w' = w := by
  unfold hexV
  by_cases a1 : 48 ≤ c ∧ c ≤ 57
  · obtain ⟨a2, a3⟩ := a1
    rw [if_pos ⟨a2, a3⟩]
    go_enter Try.func13, Try.ntmps13
    go_wp2
    go_ret
    exact ⟨rfl, rfl⟩
  · rw [if_neg a1]
    by_cases b1 : 97 ≤ c ∧ c ≤ 102
    · obtain ⟨b2, b3⟩ := b1
      rw [if_pos ⟨b2, b3⟩]
      clear a1
      go_enter Try.func13, Try.ntmps13
      go_wp2
      go_ret
      exact ⟨ret_int (by omega), rfl⟩
    · rw [if_neg b1]
      by_cases c1 : 65 ≤ c ∧ c ≤ 70
      · obtain ⟨c2, c3⟩ := c1
        rw [if_pos ⟨c2, c3⟩]
        clear a1 b1
        go_enter Try.func13, Try.ntmps13
        go_wp2
        go_ret
        exact ⟨ret_int (by omega), rfl⟩
      · rw [if_neg c1]
        go_enter Try.func13, Try.ntmps13
        go_wp2
        all_goals (go_ret; exact ⟨rfl, rfl⟩)
theorem hexDigit_any (c : Int) (w : World) (h0 : 0 ≤ c) (h1 : c ≤ 255) : Calls Try.prog 21 #[.int .u8 c] w fun e w' => e = .returned (.int .i64 (hexV c)) ∧ w' = w := by
  unfold hexV
  by_cases a1 : 48 ≤ c ∧ c ≤ 57
  · obtain ⟨a2, a3⟩ := a1
    rw [if_pos ⟨a2, a3⟩]
    go_enter Try.func21, Try.ntmps21
    go_wp2
    go_ret
    exact ⟨rfl, rfl⟩
  · rw [if_neg a1]
    by_cases b1 : 97 ≤ c ∧ c ≤ 102
    · obtain ⟨b2, b3⟩ := b1
      rw [if_pos ⟨b2, b3⟩]
      clear a1
      go_enter Try.func21, Try.ntmps21
      go_wp2
      go_ret
      exact ⟨ret_int (by omega), rfl⟩
    · rw [if_neg b1]
      by_cases c1 : 65 ≤ c ∧ c ≤ 70
      · obtain ⟨c2, c3⟩ := c1
        rw [if_pos ⟨c2, c3⟩]
        clear a1 b1
        go_enter Try.func21, Try.ntmps21
        go_wp2
        go_ret
        exact ⟨ret_int (by omega), rfl⟩
      · rw [if_neg c1]
        go_enter Try.func21, Try.ntmps21
        go_wp2
        all_goals (go_ret; exact ⟨rfl, rfl⟩)

theorem simpleEscape_any (c : Int) (w : World) (h0 : 0 ≤ c) (h1 : c ≤ 255) : Calls Try.prog 15 #[.int .u8 c] w fun e w' => e = .returned (.int .u8 (simpE c)) ∧ w' = w := by
  by_cases a1 : c = 98
  · subst a1
    go_enter Try.func15, Try.ntmps15
    go_wp2
    go_ret
    exact ⟨rfl, rfl⟩
  by_cases a2 : c = 102
  · subst a2
    go_enter Try.func15, Try.ntmps15
    go_wp2
    go_ret
    exact ⟨rfl, rfl⟩
  by_cases a3 : c = 110
  · subst a3
    go_enter Try.func15, Try.ntmps15
    go_wp2
    go_ret
    exact ⟨rfl, rfl⟩
  by_cases a4 : c = 114
  · subst a4
    go_enter Try.func15, Try.ntmps15
    go_wp2
    go_ret
    exact ⟨rfl, rfl⟩
  by_cases a5 : c = 116
  · subst a5
    go_enter Try.func15, Try.ntmps15
    go_wp2
    go_ret
    exact ⟨rfl, rfl⟩
  have e : simpE c = c := by unfold simpE; rw [if_neg a1, if_neg a2, if_neg a3, if_neg a4, if_neg a5]
  rw [e]
  have b1 : (c == 98) = false := beq_eq_false_iff_ne.2 a1
  have b2 : (c == 102) = false := beq_eq_false_iff_ne.2 a2
  have b3 : (c == 110) = false := beq_eq_false_iff_ne.2 a3
  have b4 : (c == 114) = false := beq_eq_false_iff_ne.2 a4
  have b5 : (c == 116) = false := beq_eq_false_iff_ne.2 a5
  clear a1 a2 a3 a4 a5 e
  go_enter Try.func15, Try.ntmps15
  go_wp2
  go_ret
  exact ⟨rfl, rfl⟩
theorem isSurrogate_any (r : Int) (w : World) : Calls Try.prog 18 #[.int .i32 r] w fun e w' => e = .returned (.bool (decide (55296 ≤ r ∧ r < 57344))) ∧ w' = w := by
  by_cases a1 : 55296 ≤ r
  · by_cases a2 : r < 57344
    · rw [decide_eq_true ⟨a1, a2⟩]
      go_enter Try.func18, Try.ntmps18
      go_wp2
      go_ret
      exact ⟨rfl, rfl⟩
    · rw [decide_eq_false (fun h => a2 h.2)]
      go_enter Try.func18, Try.ntmps18
      go_wp2
      go_ret
      exact ⟨rfl, rfl⟩
  · rw [decide_eq_false (fun h => a1 h.1)]
    go_enter Try.func18, Try.ntmps18
    go_wp2
    go_ret
    exact ⟨rfl, rfl⟩
theorem decode_pair (r l : Int) (w : World) (h1 : isHi r) (h2 : isLo l) : Calls Try.prog 19 #[.int .i32 r, .int .i32 l] w fun e w' => e = .returned (.int .i32 (pairV r l)) ∧ w' = w := by
  obtain ⟨a1, a2⟩ := h1
  obtain ⟨b1, b2⟩ := h2
  have hb : bits .or .i32 ((r - 55296) * 1024) (l - 56320) = (r - 55296) * 1024 + (l - 56320) := bits_join .i32 31 (by decide) wraps_i32 10 _ _ (by omega) (by omega) (by omega) (by omega) (by omega) (by omega)
  go_enter Try.func19, Try.ntmps19
  go_wp2
  go_ret
  exact ⟨ret_int (by unfold pairV; omega), rfl⟩
theorem decode_lone (r l : Int) (w : World) (h : ¬ (isHi r ∧ isLo l)) : Calls Try.prog 19 #[.int .i32 r, .int .i32 l] w fun e w' => e = .returned (.int .i32 65533) ∧ w' = w := by
  unfold isHi isLo at h
  by_cases a1 : 55296 ≤ r
  · by_cases a2 : r < 56320
    · by_cases b1 : 56320 ≤ l
      · have b2 : ¬ l < 57344 := by omega
        clear h
        go_enter Try.func19, Try.ntmps19
        go_wp2
        go_ret
        exact ⟨rfl, rfl⟩
      · clear h
        go_enter Try.func19, Try.ntmps19
        go_wp2
        go_ret
        exact ⟨rfl, rfl⟩
    · clear h
      go_enter Try.func19, Try.ntmps19
      go_wp2
      go_ret
      exact ⟨rfl, rfl⟩
  · clear h
    go_enter Try.func19, Try.ntmps19
    go_wp2
    go_ret
    exact ⟨rfl, rfl⟩
theorem or16 (v d : Int) (h0 : 0 ≤ v) (h1 : v ≤ 4096) (h2 : 0 ≤ d) (h3 : d ≤ 15) : bits .or .i32 (v * 16) d = v * 16 + d :=
  bits_join .i32 31 (by decide) wraps_i32 4 _ _ (by omega) (by omega) (by omega) (by omega) (by omega) (by omega)
/-- the value of the first k of four digits -/
def hexK (a b c d : Int) (k : Nat) : Int := if k = 0 then 0 else if k = 1 then hexV a else if k = 2 then hexV a * 16 + hexV b else if k = 3 then (hexV a * 16 + hexV b) * 16 + hexV c else ((hexV a * 16 + hexV b) * 16 + hexV c) * 16 + hexV d
theorem hex4_any (b off len cap : Nat) (z0 z1 z2 z3 : Int) (w : World) (hl : 4 ≤ len) (hc : len ≤ cap) (hm : cap ≤ maxLen) (c0 : w.cell? ⟨b, off, none⟩ = some (.int .u8 z0)) (c1 : w.cell? ⟨b, off + 1, none⟩ = some (.int .u8 z1)) (c2 : w.cell? ⟨b, off + 2, none⟩ = some (.int .u8 z2)) (c3 : w.cell? ⟨b, off + 3, none⟩ = some (.int .u8 z3))
    (b0 : 0 ≤ z0 ∧ z0 ≤ 255) (b1 : 0 ≤ z1 ∧ z1 ≤ 255) (b2 : 0 ≤ z2 ∧ z2 ≤ 255) (b3 : 0 ≤ z3 ∧ z3 ≤ 255) (g0 : 0 ≤ hexV z0) (g1 : 0 ≤ hexV z1) (g2 : 0 ≤ hexV z2) (g3 : 0 ≤ hexV z3) :
    Calls Try.prog 17 #[.slice (some ⟨b, off, none⟩) len cap] w fun e w' => e = .returned (.int .i32 (hex4V z0 z1 z2 z3)) ∧ w' = w := by
  unfold maxLen at hm
  have k0 := hexV_le z0
  have k1 := hexV_le z1
  have k2 := hexV_le z2
  have k3 := hexV_le z3
  have o0 := or16 0 (hexV z0) (by omega) (by omega) (by omega) (by omega)
  have o1 := or16 (hexV z0) (hexV z1) (by omega) (by omega) (by omega) (by omega)
  have o2 := or16 (hexV z0 * 16 + hexV z1) (hexV z2) (by omega) (by omega) (by omega) (by omega)
  have o3 := or16 ((hexV z0 * 16 + hexV z1) * 16 + hexV z2) (hexV z3) (by omega) (by omega) (by omega) (by omega)
  go_enter Try.func17, Try.ntmps17
  go_wp2

  go_loop [3, 9] (fun v i => ∃ k : Nat, k ≤ 4 ∧ i = .int .i64 k ∧ v = .int .i32 (hexK z0 z1 z2 z3 k)) (fun _ i => 4 - (intOf i).toNat)
  case atStart => exact ⟨0, by omega, rfl, rfl⟩
  case round =>
    obtain ⟨k, hk, rfl, rfl⟩ := hrel
    rcases (by omega : k = 0 ∨ k = 1 ∨ k = 2 ∨ k = 3 ∨ k = 4) with rfl | rfl | rfl | rfl | rfl
    · have e0 : hexK z0 z1 z2 z3 0 = 0 := rfl
      rw [e0]
      go_wp2_with (go_at_call 21; refine (hexDigit_any _ _ b0.1 b0.2).mono ?_; rintro e w' ⟨rfl, rfl⟩)
      go_round
      case rel => exact ⟨1, by omega, by go_num, by simp [hexK]⟩
      case measure => simp [intOf]
    · have e0 : hexK z0 z1 z2 z3 1 = hexV z0 := rfl
      rw [e0]
      go_wp2_with (go_at_call 21; refine (hexDigit_any _ _ b1.1 b1.2).mono ?_; rintro e w' ⟨rfl, rfl⟩)
      go_round
      case rel => exact ⟨2, by omega, by go_num, by simp [hexK]⟩
      case measure => simp [intOf]
    · have e0 : hexK z0 z1 z2 z3 2 = hexV z0 * 16 + hexV z1 := rfl
      rw [e0]
      go_wp2_with (go_at_call 21; refine (hexDigit_any _ _ b2.1 b2.2).mono ?_; rintro e w' ⟨rfl, rfl⟩)
      go_round
      case rel => exact ⟨3, by omega, by go_num, by simp [hexK]⟩
      case measure => simp [intOf]
    · have e0 : hexK z0 z1 z2 z3 3 = (hexV z0 * 16 + hexV z1) * 16 + hexV z2 := rfl
      rw [e0]
      go_wp2_with (go_at_call 21; refine (hexDigit_any _ _ b3.1 b3.2).mono ?_; rintro e w' ⟨rfl, rfl⟩)
      go_round
      case rel => exact ⟨4, by omega, by go_num, by simp [hexK]⟩
      case measure => simp [intOf]
    · have e0 : hexK z0 z1 z2 z3 4 = hex4V z0 z1 z2 z3 := by simp only [hexK, hex4V]; omega
      rw [e0]
      go_wp2
      go_ret
      exact ⟨rfl, rfl⟩
end Go.Proofs.Qxb6617065a
