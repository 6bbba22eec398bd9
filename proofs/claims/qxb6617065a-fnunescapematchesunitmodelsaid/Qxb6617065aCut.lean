import Derived.Test.Qxb6617065aUn
namespace Go.Proofs.Qxb6617065a
open Go.RowKit
set_option maxHeartbeats 1000000
set_option maxRecDepth 100000
/-- the address behind x[k:] -/
def shiftA (a : Option Addr) (cap k : Nat) : Option Addr := if cap = k then a else a.map (·.add k)
theorem run_hi (a : Option Addr) (len cap k : Nat) (hk : k ≤ cap) (hn : a = none → cap = 0) (w : World) : (Instr.slice 22 (.slice a len cap) none (some (.int .i64 (k : Int))) none).run Try.prog w = .ok (.slice a k cap) w := by
  cases a with
  | none =>
    obtain rfl : cap = 0 := hn rfl
    obtain rfl : k = 0 := by omega
    simp [Instr.slice, Instr.sliceBounds, Instr.sliceBound, asIntOf, run_underlying Try.underlying22, go_sem]
  | some x =>
    simp [Instr.slice, Instr.sliceBounds, Instr.sliceBound, asIntOf, run_underlying Try.underlying22, go_sem]
    intro h
    omega
theorem run_lo (a : Option Addr) (len cap k : Nat) (hk : k ≤ len) (hl : len ≤ cap) (hn : a = none → cap = 0) (w : World) : (Instr.slice 22 (.slice a len cap) (some (.int .i64 (k : Int))) none none).run Try.prog w = .ok (.slice (shiftA a cap k) (len - k) (cap - k)) w := by
  cases a with
  | none =>
    obtain rfl : cap = 0 := hn rfl
    obtain rfl : len = 0 := by omega
    obtain rfl : k = 0 := by omega
    simp [Instr.slice, Instr.sliceBounds, Instr.sliceBound, asIntOf, run_underlying Try.underlying22, shiftA, go_sem]
  | some x =>
    simp [Instr.slice, Instr.sliceBounds, Instr.sliceBound, asIntOf, run_underlying Try.underlying22, go_sem]
    rw [if_pos hk]
    rfl
theorem Row8.take {w : World} {a : Option Addr} {zs : List Int} (h : Row8 w a zs) (k : Nat) : Row8 w a (zs.take k) := by
  rcases h with rfl | ⟨b, off, ha, hlt, hc⟩
  · exact .inl (by simp)
  · refine .inr ⟨b, off, ha, hlt, fun j c hj => hc j c ?_⟩
    rw [List.getElem?_take] at hj
    split at hj
    · exact hj
    · cases hj
theorem Row8.drop {w : World} {a : Option Addr} {zs : List Int} (h : Row8 w a zs) {cap : Nat} (hl : zs.length ≤ cap) (k : Nat) (hk : k ≤ zs.length) : Row8 w (shiftA a cap k) (zs.drop k) := by
  by_cases e : k = zs.length
  · exact .inl (by rw [e]; simp)
  rcases h with rfl | ⟨b, off, ha, hlt, hc⟩
  · exact .inl (by simp)
  · refine .inr ⟨b, off + k, ?_, hlt, fun j c hj => ?_⟩
    · unfold shiftA
      rw [if_neg (by omega), ha]
      show some (Addr.add _ _) = _
      unfold Addr.add
      split <;> simp_all
    · rw [List.getElem?_drop] at hj
      have := hc (k + j) c hj
      rwa [Nat.add_assoc]
theorem zzUnescape_any (a : Option Addr) (zs : List Int) (ts : List (List Int)) (len cap : Nat) (w : World) (hlen : Hid (zs.length = len)) (hl : len ≤ 1048577) (hlc : len ≤ cap) (hcm : cap ≤ maxLen) (h1 : Row8 w a zs) (hts : Hid (zs = ts.flatten ∧ ∀ t ∈ ts, Valid t)) :
    Calls Try.prog 7 #[.slice a len cap] w fun e w' => ∃ v, e = .returned v ∧ w'.ownsRow w.heap.size 5 1 v (unT ts).length (B8 (unT ts)) ∧ Below w.heap.size w w' := by
  have HX : Hid (Calls Try.prog 14 #[.slice a len cap] w fun e w' => ∃ v, e = .returned v ∧ w'.ownsRow w.heap.size 5 1 v (unT ts).length (B8 (unT ts)) ∧ Below w.heap.size w w') := unescape_any a zs ts len cap w hlen hl hlc hcm h1 hts
  clear h1 hts hlen
  go_enter Try.func7, Try.ntmps7
  go_wp2_with (go_at_call 14; refine HX.out.mono ?_; rintro e w1 ⟨v1, rfl, hown, hb⟩; have HO : Hid (w1.ownsRow w.heap.size 5 1 v1 (unT ts).length (B8 (unT ts))) := hown; clear hown)
  go_ret
  exact ⟨v1, rfl, HO.out, hb⟩
/-- an owned row, read as bytes -/
theorem row8_of_own {w : World} {B n : Nat} {v : Value} {xs : List Int} (h : w.ownsRow B 5 1 v n (B8 xs)) (hb : ∀ c ∈ xs, 0 ≤ c ∧ c ≤ 255) : ∃ a cap, v = .slice a n cap ∧ xs.length = n ∧ n ≤ cap ∧ cap ≤ maxLen ∧ (a = none → cap = 0) ∧ Row8 w a xs ∧ ∀ x, a = some x → B ≤ x.block := by
  have hlen : xs.length = n := by have := h.1; rw [B8_len] at this; omega
  rcases h.2 with ⟨rfl, rfl⟩ | ⟨g, cap, cur, rfl, hg, hheap, hnc, hcm, hsz, htake⟩
  · exact ⟨none, 0, rfl, hlen, Nat.le_refl _, Nat.zero_le _, fun _ => rfl, .inl (List.eq_nil_of_length_eq_zero hlen), fun x hx => by cases hx⟩
  · refine ⟨_, cap, rfl, hlen, hnc, hcm, (fun h => by cases h), .inr ⟨g, 0, rfl, (Array.getElem?_eq_some_iff.1 hheap).1, fun j c hj => ⟨?_, hb c (List.mem_of_getElem? hj)⟩⟩, fun x hx => by cases hx; exact hg⟩
    have hu : (B8 xs)[j]? = some (.int .u8 c) := by unfold B8; rw [List.getElem?_map, hj]; rfl
    have := h.cells (g := g) rfl j _ hu
    rw [show (⟨g, 0, none⟩ : Addr).add j = ⟨g, 0 + j, none⟩ by unfold Addr.add; split <;> simp_all] at this
    exact this
end Go.Proofs.Qxb6617065a
