import Derived.Test.Qxb6617065aRune
import Derived.Laws.BitsLemmas
namespace Go.Proofs.Qxb6617065a
open Go.RowKit
set_option maxHeartbeats 400000
set_option maxRecDepth 100000
theorem wraps_i64 (n : Int) (h₀ : 0 ≤ n) (h₁ : n < 2 ^ 62) : IntKind.i64.wrap n = n := by rw [IntKind.wrap_i64]; omega
theorem orI (i : Nat) (x y : Int) (hx₀ : 0 ≤ x) (hx : x % 2 ^ i = 0) (hx₁ : x < 2 ^ 62) (hy₀ : 0 ≤ y) (hy : y < 2 ^ i) (hy₁ : y < 2 ^ 62) : bits .or .i64 x y = x + y :=
  bits_join .i64 62 (by decide) wraps_i64 i x y hx₀ hx hx₁ hy₀ hy hy₁
theorem and63 (x : Int) (h₀ : 0 ≤ x) (h₁ : x < 2 ^ 62) : bits .and .i64 x 63 = x % 64 := bits_mask .i64 62 (by decide) wraps_i64 6 (by decide) x h₀ h₁
theorem appendUTF8_any (B : Nat) (v : Value) (n : Nat) (xs : List Int) (r : Int) (w : World) (hown : w.ownsRow B 5 1 v n (B8 xs)) (hB : B ≤ w.heap.size) (hn : n + 4 ≤ 140737488355328) (h0 : 0 ≤ r) (h1 : r ≤ 1114111) :
    Calls Try.prog 16 #[v, .int .i64 r] w fun e w' => ∃ v', e = .returned v' ∧ w'.ownsRow B 5 1 v' (n + (utf8 r).length) (B8 (xs ++ utf8 r)) ∧ Below B w w' := by
  have HO : Hid (w.ownsRow B 5 1 v n (B8 xs)) := hown
  clear hown
  have m0 : bits .and .i64 r 63 = r % 64 := and63 r h0 (by omega)
  have m1 : bits .and .i64 (r / 64) 63 = r / 64 % 64 := and63 _ (by omega) (by omega)
  have m2 : bits .and .i64 (r / 4096) 63 = r / 4096 % 64 := and63 _ (by omega) (by omega)
  have j0 : bits .or .i64 128 (r % 64) = 128 + r % 64 := orI 6 128 _ (by omega) (by omega) (by omega) (by omega) (by omega) (by omega)
  have j1 : bits .or .i64 128 (r / 64 % 64) = 128 + r / 64 % 64 := orI 6 128 _ (by omega) (by omega) (by omega) (by omega) (by omega) (by omega)
  have j2 : bits .or .i64 128 (r / 4096 % 64) = 128 + r / 4096 % 64 := orI 6 128 _ (by omega) (by omega) (by omega) (by omega) (by omega) (by omega)
  unfold utf8
  by_cases a1 : r < 128
  · rw [if_pos a1]
    clear m0 m1 m2 j0 j1 j2
    go_enter Try.func16, Try.ntmps16
    go_wp2_with (at_builtin; refine wpList_app8 w rfl _ _ rfl B v n xs [r] rfl HO.out rfl (by simp; omega) hB ?_; intro v' w1 hown1 hb1)
    go_ret
    exact ⟨v', rfl, hown1, hb1⟩
  rw [if_neg a1]
  by_cases a2 : r < 2048
  · rw [if_pos a2]
    have k1 : bits .or .i64 192 (r / 64) = 192 + r / 64 := orI 6 192 _ (by omega) (by omega) (by omega) (by omega) (by omega) (by omega)
    clear m1 m2 j1 j2
    go_enter Try.func16, Try.ntmps16
    go_wp2_with (first | (at_builtin; first
      | (refine wpList_app8 w rfl _ _ rfl B v n xs [192 + r / 64] rfl HO.out rfl (by simp; omega) hB ?_; intro v1 w1 hown1 hb1; have HO1 : Hid (w1.ownsRow B 5 1 v1 (n + 1) (B8 (xs ++ [192 + r / 64]))) := hown1; clear hown1)
      | (refine wpList_app8 w1 rfl _ _ rfl B v1 (n + 1) (xs ++ [192 + r / 64]) [128 + r % 64] rfl HO1.out rfl (by simp; omega) (by have := hb1.size; omega) ?_; intro v2 w2 hown2 hb2; have HO2 : Hid (w2.ownsRow B 5 1 v2 (n + 1 + 1) (B8 (xs ++ [192 + r / 64] ++ [128 + r % 64]))) := hown2; clear hown2)) | go_in)
    go_ret
    refine ⟨v2, rfl, ?_, (hb1.trans hb2)⟩
    have h := HO2.out
    rw [show xs ++ [192 + r / 64] ++ [128 + r % 64] = xs ++ [192 + r / 64, 128 + r % 64] by simp] at h
    exact h
  rw [if_neg a2]
  by_cases a3 : r < 65536
  · rw [if_pos a3]
    have k1 : bits .or .i64 224 (r / 4096) = 224 + r / 4096 := orI 5 224 _ (by omega) (by omega) (by omega) (by omega) (by omega) (by omega)
    clear m2 j2
    go_enter Try.func16, Try.ntmps16
    go_wp2_with (first | (at_builtin; first
      | (refine wpList_app8 w rfl _ _ rfl B v n xs [224 + r / 4096] rfl HO.out rfl (by simp; omega) hB ?_; intro v1 w1 hown1 hb1; have HO1 : Hid (w1.ownsRow B 5 1 v1 (n + 1) (B8 (xs ++ [224 + r / 4096]))) := hown1; clear hown1)
      | (refine wpList_app8 w1 rfl _ _ rfl B v1 (n + 1) (xs ++ [224 + r / 4096]) [128 + r / 64 % 64] rfl HO1.out rfl (by simp; omega) (by have := hb1.size; omega) ?_; intro v2 w2 hown2 hb2; have HO2 : Hid (w2.ownsRow B 5 1 v2 (n + 1 + 1) (B8 (xs ++ [224 + r / 4096] ++ [128 + r / 64 % 64]))) := hown2; clear hown2)
      | (refine wpList_app8 w2 rfl _ _ rfl B v2 (n + 1 + 1) (xs ++ [224 + r / 4096] ++ [128 + r / 64 % 64]) [128 + r % 64] rfl HO2.out rfl (by simp; omega) (by have := hb1.size; have := hb2.size; omega) ?_; intro v3 w3 hown3 hb3; have HO3 : Hid (w3.ownsRow B 5 1 v3 (n + 1 + 1 + 1) (B8 (xs ++ [224 + r / 4096] ++ [128 + r / 64 % 64] ++ [128 + r % 64]))) := hown3; clear hown3)) | go_in)
    go_ret
    refine ⟨v3, rfl, ?_, ((hb1.trans hb2).trans hb3)⟩
    have h := HO3.out
    rw [show xs ++ [224 + r / 4096] ++ [128 + r / 64 % 64] ++ [128 + r % 64] = xs ++ [224 + r / 4096, 128 + r / 64 % 64, 128 + r % 64] by simp] at h
    exact h
  rw [if_neg a3]
  · have k1 : bits .or .i64 240 (r / 262144) = 240 + r / 262144 := orI 3 240 _ (by omega) (by omega) (by omega) (by omega) (by omega) (by omega)
    go_enter Try.func16, Try.ntmps16
    go_wp2_with (first | (at_builtin; first
      | (refine wpList_app8 w rfl _ _ rfl B v n xs [240 + r / 262144] rfl HO.out rfl (by simp; omega) hB ?_; intro v1 w1 hown1 hb1; have HO1 : Hid (w1.ownsRow B 5 1 v1 (n + 1) (B8 (xs ++ [240 + r / 262144]))) := hown1; clear hown1)
      | (refine wpList_app8 w1 rfl _ _ rfl B v1 (n + 1) (xs ++ [240 + r / 262144]) [128 + r / 4096 % 64] rfl HO1.out rfl (by simp; omega) (by have := hb1.size; omega) ?_; intro v2 w2 hown2 hb2; have HO2 : Hid (w2.ownsRow B 5 1 v2 (n + 1 + 1) (B8 (xs ++ [240 + r / 262144] ++ [128 + r / 4096 % 64]))) := hown2; clear hown2)
      | (refine wpList_app8 w2 rfl _ _ rfl B v2 (n + 1 + 1) (xs ++ [240 + r / 262144] ++ [128 + r / 4096 % 64]) [128 + r / 64 % 64] rfl HO2.out rfl (by simp; omega) (by have := hb1.size; have := hb2.size; omega) ?_; intro v3 w3 hown3 hb3; have HO3 : Hid (w3.ownsRow B 5 1 v3 (n + 1 + 1 + 1) (B8 (xs ++ [240 + r / 262144] ++ [128 + r / 4096 % 64] ++ [128 + r / 64 % 64]))) := hown3; clear hown3)
      | (refine wpList_app8 w3 rfl _ _ rfl B v3 (n + 1 + 1 + 1) (xs ++ [240 + r / 262144] ++ [128 + r / 4096 % 64] ++ [128 + r / 64 % 64]) [128 + r % 64] rfl HO3.out rfl (by simp; omega) (by have := hb1.size; have := hb2.size; have := hb3.size; omega) ?_; intro v4 w4 hown4 hb4; have HO4 : Hid (w4.ownsRow B 5 1 v4 (n + 1 + 1 + 1 + 1) (B8 (xs ++ [240 + r / 262144] ++ [128 + r / 4096 % 64] ++ [128 + r / 64 % 64] ++ [128 + r % 64]))) := hown4; clear hown4)) | go_in)
    go_ret
    refine ⟨v4, rfl, ?_, (((hb1.trans hb2).trans hb3).trans hb4)⟩
    have h := HO4.out
    rw [show xs ++ [240 + r / 262144] ++ [128 + r / 4096 % 64] ++ [128 + r / 64 % 64] ++ [128 + r % 64] = xs ++ [240 + r / 262144, 128 + r / 4096 % 64, 128 + r / 64 % 64, 128 + r % 64] by simp] at h
    exact h
end Go.Proofs.Qxb6617065a
