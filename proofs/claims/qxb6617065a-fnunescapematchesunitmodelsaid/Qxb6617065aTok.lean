import Derived.Test.Qxb6617065aWell
namespace Go.Proofs.Qxb6617065a
open Go.RowKit
set_option maxHeartbeats 1000000
set_option maxRecDepth 100000
/-- a place between two tokens -/
def Cut (ts : List (List Int)) (n : Nat) : Prop := ∃ pre post, ts = pre ++ post ∧ n = pre.flatten.length
theorem tok_at {zs : List Int} {pre post : List (List Int)} {t : List Int} (h : zs = (pre ++ t :: post).flatten) {j : Nat} {c : Int} (hj : t[j]? = some c) : zs[pre.flatten.length + j]? = some c := by
  have hlt : j < t.length := (List.getElem?_eq_some_iff.1 hj).1
  rw [h, List.flatten_append, List.flatten_cons, List.getElem?_append_right (by omega), Nat.add_sub_cancel_left, List.getElem?_append_left hlt, hj]
theorem Cut.next {zs : List Int} {ts : List (List Int)} {n : Nat} (hts : zs = ts.flatten) (h : Cut ts n) (hv : ∀ t ∈ ts, Valid t) (hn : n < zs.length) : ∃ t, Valid t ∧ Cut ts (n + t.length) ∧ n + t.length ≤ zs.length ∧ ∀ j c, t[j]? = some c → zs[n + j]? = some c := by
  obtain ⟨pre, post, rfl, rfl⟩ := h
  cases post with
  | nil => rw [hts] at hn; simp at hn
  | cons t post =>
    refine ⟨t, hv t (by simp), ⟨pre ++ [t], post, by simp, by simp⟩, ?_, fun j c hj => tok_at hts hj⟩
    rw [hts]
    simp
theorem tokenBoundary_any (a : Option Addr) (zs : List Int) (ts : List (List Int)) (len cap : Nat) (q : Int) (w : World) (hlen : Hid (zs.length = len)) (hl : len ≤ 140737488351232) (h1 : Row8 w a zs) (hts : Hid (zs = ts.flatten ∧ ∀ t ∈ ts, Valid t)) :
    Calls Try.prog 11 #[.slice a len cap, .int .i64 q] w fun e w' => Told (∃ n : Nat, q = n ∧ Cut ts n) e ∧ w' = w := by
  have H1 : Hid (Row8 w a zs) := h1
  clear h1
  go_enter Try.func11, Try.ntmps11
  go_wp2
  go_loop [5] (fun i => ∃ k : Nat, k ≤ len ∧ i = .int .i64 k ∧ Cut ts k) (fun i => len - (intOf i).toNat)
  case atStart => exact ⟨0, Nat.zero_le _, rfl, [], ts, rfl, rfl⟩
  case round =>
    obtain ⟨k, hk, rfl, hcut⟩ := hrel
    have HC : Hid (Cut ts k) := hcut
    clear hcut
    by_cases hqk : q = (k : Int)
    · subst hqk
      have hb : ((k : Int) == (k : Int)) = true := by simp
      by_cases hlt : k < len
      · go_wp2
        go_ret
        exact ⟨Told.yes ⟨k, rfl, HC.out⟩, rfl⟩
      · go_wp2
        go_ret
        exact ⟨Told.yes ⟨k, rfl, HC.out⟩, rfl⟩
    · have hb : ((k : Int) == q) = false := beq_eq_false_iff_ne.2 (fun h => hqk h.symm)
      by_cases hlt : k < len
      · obtain ⟨t, hvt, hct, hle, hat⟩ := HC.out.next hts.out.1 hts.out.2 (by rw [hlen.out]; exact hlt)
        have hle' : k + t.length ≤ len := by rw [hlen.out] at hle; exact hle
        have HT : Hid (Cut ts (k + t.length)) := hct
        have HA : Hid (∀ j c, t[j]? = some c → zs[k + j]? = some c) := hat
        clear hct hat hle
        obtain ⟨b, off, c, rfl, hbl, hz, hc, hc0, hc1⟩ := H1.out.at (k := k) (by rw [hlen.out]; exact hlt)
        have hlt' : (k : Int) < (len : Int) := by omega
        rcases hvt with ⟨c', rfl, h92⟩ | ⟨e, rfl, hs⟩ | ⟨x0, x1, x2, x3, rfl, -⟩
        · have hcc : zs[k]? = some c' := HA.out 0 c' rfl
          obtain rfl : c = c' := by simpa [hz] using hcc
          clear hcc hz
          have hb' : (c != 92) = true := by simp [h92]
          go_wp2
          go_round
          case rel => exact ⟨k + 1, by omega, by go_num, HT.out⟩
          case measure => simp [intOf]; omega
        · have hcc : zs[k]? = some 92 := HA.out 0 92 rfl
          obtain rfl : c = 92 := by simpa [hz] using hcc
          clear hcc hz
          simp only [List.length_cons, List.length_nil] at hle'
          obtain ⟨b', off', x, hx', -, hx, hcx, hx0, hx1⟩ := H1.out.at (k := k + 1) (by rw [hlen.out]; omega)
          simp at hx'
          obtain ⟨rfl, rfl⟩ := hx'
          have hxx : zs[k + 1]? = some e := HA.out 1 e rfl
          obtain rfl : x = e := by simpa [hx] using hxx
          have hcx' : w.cell? ⟨b, off + (k + 1), none⟩ = some (.int .u8 x) := hcx
          have hb' : (x == 117) = false := beq_eq_false_iff_ne.2 (by rintro rfl; simp [isSimp] at hs)
          clear hcx hxx hx hs
          go_wp2
          go_round
          case rel => exact ⟨k + 2, by omega, by go_num, HT.out⟩
          case measure => simp [intOf]; omega
        · have hcc : zs[k]? = some 92 := HA.out 0 92 rfl
          obtain rfl : c = 92 := by simpa [hz] using hcc
          clear hcc hz
          simp only [List.length_cons, List.length_nil] at hle'
          obtain ⟨b', off', x, hx', -, hx, hcx, hx0, hx1⟩ := H1.out.at (k := k + 1) (by rw [hlen.out]; omega)
          simp at hx'
          obtain ⟨rfl, rfl⟩ := hx'
          have hxx : zs[k + 1]? = some 117 := HA.out 1 117 rfl
          obtain rfl : x = 117 := by simpa [hx] using hxx
          have hcx' : w.cell? ⟨b, off + (k + 1), none⟩ = some (.int .u8 117) := hcx
          clear hcx hxx hx
          go_wp2
          go_round
          case rel => exact ⟨k + 6, by omega, by go_num, HT.out⟩
          case measure => simp [intOf]; omega
      · go_wp2
        go_ret
        exact ⟨Told.no, rfl⟩
/-- nothing but bytes -/
theorem Row8.byte {w : World} {a : Option Addr} {zs : List Int} (h : Row8 w a zs) : ∀ c ∈ zs, 0 ≤ c ∧ c ≤ 255 := by
  intro c hc
  obtain ⟨j, hj, e⟩ := List.mem_iff_getElem.1 hc
  obtain ⟨_, _, c', -, -, hz, -, h0⟩ := h.at hj
  rw [List.getElem?_eq_getElem hj, e] at hz
  obtain rfl : c = c' := by simpa using hz
  exact h0
end Go.Proofs.Qxb6617065a
