import Derived.Test.Qxb6617582aZZ
namespace Go.Proofs.Qxb6617582a
open Go.RowKit Go.Maps
set_option maxHeartbeats 4000000
set_option maxRecDepth 100000
/-- some bool is handed back -/
def ABool (e : Ending) : Prop := ∃ b, e = .returned (.bool b)
theorem bytes4_any (a0 a1 a2 a3 : Option Addr) (n0 n1 n2 n3 c0 c1 c2 c3 : Nat) (ss : Nat → ByteArray) (L ii dd q : Int) (w : World) (R0 : Hid (RowV w a0 n0 (fun j => .string (ss j)))) (hs : Hid (∀ i, i < n0 → (ss i).size ≤ maxLen)) (h0 : n0 ≤ maxLen) (h1 : n1 ≤ maxLen) (h2 : n2 ≤ maxLen) (h3 : n3 ≤ maxLen) :
    Calls Try.prog 4 #[.slice a0 n0 c0, .slice a1 n1 c1, .slice a2 n2 c2, .slice a3 n3 c3, .int .u64 L, .int .i64 ii, .int .i64 dd, .int .i64 q] w fun e w' => ABool e ∧ w' = w := by
  unfold maxLen at h0 h1 h2 h3
  by_cases hb0 : n0 ≤ 1048576
  case neg =>
    go_enter Try.func4, Try.ntmps4
    go_wp2
    go_ret
    exact ⟨⟨_, rfl⟩, rfl⟩
  go_enter Try.func4, Try.ntmps4
  go_wp2
  go_loop [17, 18] (fun vz vi => ∃ (z : Int) (k : Nat), 0 ≤ z ∧ z ≤ 1048576 ∧ k ≤ n0 ∧ vz = .int .i64 z ∧ vi = .int .i64 k) (fun _ vi => n0 - (intOf vi).toNat)
  case atStart => exact ⟨_, 0, by omega, by omega, Nat.zero_le _, rfl, rfl⟩
  case round =>
    obtain ⟨z, k, hz0, hz1, hk, rfl, rfl⟩ := hrel
    by_cases hlt : k < n0
    · obtain ⟨b0, o0, ha0, l0, e0⟩ := R0.out.at hlt
      subst ha0
      have hs0 := hs.out k hlt
      unfold maxLen at hs0
      have hlt' : (k : Int) < (n0 : Int) := by omega
      obtain ⟨S, hS⟩ : ∃ S, ss k = S := ⟨_, rfl⟩
      rw [hS] at e0 hs0
      clear hS
      by_cases hb1 : S.size ≤ 1048576
      · by_cases hb2 : z + S.size ≤ 1048576
        · go_wp2
          go_round
          case rel => exact ⟨z + S.size, k + 1, by omega, hb2, by omega, by go_num, by go_num⟩
          case measure => simp [intOf]; omega
        · go_wp2
          go_ret
          exact ⟨⟨_, rfl⟩, rfl⟩
      · go_wp2
        go_ret
        exact ⟨⟨_, rfl⟩, rfl⟩
    · obtain rfl : n0 = k := by omega
      go_wp2
      all_goals (go_ret; exact ⟨⟨_, rfl⟩, rfl⟩)
end Go.Proofs.Qxb6617582a
