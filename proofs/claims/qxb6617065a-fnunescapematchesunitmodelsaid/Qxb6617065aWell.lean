import Derived.Test.Qxb6617065aRow
namespace Go.Proofs.Qxb6617065a
open Go.RowKit
set_option maxHeartbeats 1000000
set_option maxRecDepth 100000
/-- the first k bytes are whole tokens -/
def Pre (zs : List Int) (k : Nat) : Prop := ∃ ts : List (List Int), (∀ t ∈ ts, Valid t) ∧ zs.take k = ts.flatten
theorem Pre.zero (zs : List Int) : Pre zs 0 := ⟨[], by simp, by simp⟩
theorem Pre.step {zs : List Int} {k : Nat} (h : Pre zs k) (t : List Int) (ht : Valid t) (hz : zs.take (k + t.length) = zs.take k ++ t) : Pre zs (k + t.length) := by
  obtain ⟨ts, hv, e⟩ := h
  refine ⟨ts ++ [t], ?_, ?_⟩
  · intro u hu
    rcases List.mem_append.1 hu with hu | hu
    · exact hv u hu
    · obtain rfl : u = t := by simpa using hu
      exact ht
  · rw [hz, e]
    simp
theorem take_one {zs : List Int} {k : Nat} {c : Int} (h : zs[k]? = some c) : zs.take (k + 1) = zs.take k ++ [c] := by
  rw [List.take_add_one, h]
  rfl
theorem Pre.plain {zs : List Int} {k : Nat} (h : Pre zs k) {c : Int} (hz : zs[k]? = some c) (hc : c ≠ 92) : Pre zs (k + 1) :=
  h.step [c] (.inl ⟨c, rfl, hc⟩) (take_one hz)
theorem Pre.simp {zs : List Int} {k : Nat} (h : Pre zs k) {e : Int} (hz : zs[k]? = some 92) (he : zs[k + 1]? = some e) (hs : isSimp e) : Pre zs (k + 2) :=
  h.step [92, e] (.inr (.inl ⟨e, rfl, hs⟩)) (by
    show zs.take (k + 1 + 1) = _
    rw [take_one he, take_one hz]
    simp)
theorem Pre.hex {zs : List Int} {k : Nat} (h : Pre zs k) (hz : zs[k]? = some 92) (he : zs[k + 1]? = some 117) (hh : ∀ q, q < 4 → ∃ c, zs[k + 2 + q]? = some c ∧ 0 ≤ hexV c) : Pre zs (k + 6) := by
  obtain ⟨a, ha, ha'⟩ := hh 0 (by omega)
  obtain ⟨b, hb, hb'⟩ := hh 1 (by omega)
  obtain ⟨c, hc, hc'⟩ := hh 2 (by omega)
  obtain ⟨d, hd, hd'⟩ := hh 3 (by omega)
  refine h.step [92, 117, a, b, c, d] (.inr (.inr ⟨a, b, c, d, rfl, ha', hb', hc', hd'⟩)) ?_
  show zs.take (k + 1 + 1 + 1 + 1 + 1 + 1) = _
  rw [take_one (k := k + 1 + 1 + 1 + 1 + 1) hd, take_one (k := k + 1 + 1 + 1 + 1) hc, take_one (k := k + 1 + 1 + 1) hb, take_one (k := k + 1 + 1) ha, take_one he, take_one hz]
  simp
def Well (zs : List Int) : Prop := ∃ ts : List (List Int), zs = ts.flatten ∧ ∀ t ∈ ts, Valid t
theorem Pre.whole {zs : List Int} {k : Nat} (h : Pre zs k) (hk : zs.length ≤ k) : Well zs := by
  obtain ⟨ts, hv, e⟩ := h
  exact ⟨ts, by rw [← e, List.take_of_length_le hk], hv⟩
def Told (p : Prop) (e : Ending) : Prop := ∃ b : Bool, e = .returned (.bool b) ∧ (b = true → p)
theorem Told.no {p : Prop} : Told p (.returned (.bool false)) := ⟨false, rfl, fun h => by cases h⟩
theorem Told.yes {p : Prop} (h : p) : Told p (.returned (.bool true)) := ⟨true, rfl, fun _ => h⟩
theorem wellFormed_any (a : Option Addr) (zs : List Int) (len cap : Nat) (w : World) (hlen : Hid (zs.length = len)) (hl : len ≤ 140737488351232) (h1 : Row8 w a zs) :
    Calls Try.prog 6 #[.slice a len cap] w fun e w' => Told (Well zs) e ∧ w' = w := by
  have H1 : Hid (Row8 w a zs) := h1
  clear h1
  go_enter Try.func6, Try.ntmps6
  go_wp2
  go_loop [3] (fun i => ∃ k : Nat, k ≤ len ∧ i = .int .i64 k ∧ Pre zs k) (fun i => len - (intOf i).toNat)
  case atStart => exact ⟨0, Nat.zero_le _, rfl, Pre.zero zs⟩
  case round =>
    obtain ⟨k, hk, rfl, hpre⟩ := hrel
    have HP : Hid (Pre zs k) := hpre
    clear hpre
    by_cases hlt : k < len
    · obtain ⟨b, off, c, rfl, hbl, hz, hc, hc0, hc1⟩ := H1.out.at (k := k) (by rw [hlen.out]; exact hlt)
      have Hz : Hid (zs[k]? = some c) := hz
      have hlt' : (k : Int) < (len : Int) := by omega
      clear hz
      by_cases h92 : c = 92
      · subst h92
        by_cases hlt2 : k + 1 < len
        · obtain ⟨b', off', e, he', -, he, hce, hce0, hce1⟩ := H1.out.at (k := k + 1) (by rw [hlen.out]; exact hlt2)
          simp at he'
          obtain ⟨rfl, rfl⟩ := he'
          have He : Hid (zs[k + 1]? = some e) := he
          have hce' : w.cell? ⟨b, off + (k + 1), none⟩ = some (.int .u8 e) := hce
          clear he hce
          by_cases hsimp : isSimp e
          · have hk2 : k + 2 ≤ len := by omega
            have HP2 : Hid (Pre zs (k + 2)) := HP.out.simp Hz.out He.out hsimp
            clear He H1 Hz
            rcases hsimp with rfl | rfl | rfl | rfl | rfl | rfl | rfl | rfl
            all_goals
              go_wp2
              go_round
              case rel => exact ⟨k + 2, by omega, by go_num, HP2.out⟩
              case measure => simp [intOf]; omega
          · have e1 : (e == 34) = false := beq_eq_false_iff_ne.2 (fun h => hsimp (by simp [isSimp, h]))
            have e2 : (e == 92) = false := beq_eq_false_iff_ne.2 (fun h => hsimp (by simp [isSimp, h]))
            have e3 : (e == 47) = false := beq_eq_false_iff_ne.2 (fun h => hsimp (by simp [isSimp, h]))
            have e4 : (e == 98) = false := beq_eq_false_iff_ne.2 (fun h => hsimp (by simp [isSimp, h]))
            have e5 : (e == 102) = false := beq_eq_false_iff_ne.2 (fun h => hsimp (by simp [isSimp, h]))
            have e6 : (e == 110) = false := beq_eq_false_iff_ne.2 (fun h => hsimp (by simp [isSimp, h]))
            have e7 : (e == 114) = false := beq_eq_false_iff_ne.2 (fun h => hsimp (by simp [isSimp, h]))
            have e8 : (e == 116) = false := beq_eq_false_iff_ne.2 (fun h => hsimp (by simp [isSimp, h]))
            clear hsimp
            by_cases h117 : e = 117
            · subst h117
              clear e1 e2 e3 e4 e5 e6 e7 e8
              by_cases hlt6 : k + 6 ≤ len
              · go_wp2
                go_loop [4] (fun j => ∃ m : Nat, m ≤ 4 ∧ j = .int .i64 (k + 2 + m : Nat) ∧ ∀ q, q < m → ∃ c, zs[k + 2 + q]? = some c ∧ 0 ≤ hexV c) (fun j => k + 6 - (intOf j).toNat)
                case atStart => exact ⟨0, by omega, by go_num, fun q hq => by omega⟩
                case round =>
                  obtain ⟨m, hm, rfl, hq⟩ := hrel
                  have HQ : Hid (∀ q, q < m → ∃ c, zs[k + 2 + q]? = some c ∧ 0 ≤ hexV c) := hq
                  clear hq
                  by_cases hm4 : m < 4
                  · obtain ⟨b', off', x, hx', -, hx, hcx, hx0, hx1⟩ := H1.out.at (k := k + 2 + m) (by rw [hlen.out]; omega)
                    simp at hx'
                    obtain ⟨rfl, rfl⟩ := hx'
                    have Hx : Hid (zs[k + 2 + m]? = some x) := hx
                    have hcx' : w.cell? ⟨b, off + (k + 2 + m), none⟩ = some (.int .u8 x) := hcx
                    clear hx hcx
                    by_cases hneg : hexV x < 0
                    · go_wp2_with (go_at_call 13; refine (hexValue_any _ _ hx0 hx1).mono ?_; rintro e w' ⟨rfl, rfl⟩)
                      go_ret
                      exact ⟨Told.no, rfl⟩
                    · go_wp2_with (go_at_call 13; refine (hexValue_any _ _ hx0 hx1).mono ?_; rintro e w' ⟨rfl, rfl⟩)
                      go_round
                      case rel =>
                        refine ⟨m + 1, by omega, by go_num, fun q hq => ?_⟩
                        by_cases e : q = m
                        · subst e
                          exact ⟨x, Hx.out, by omega⟩
                        · exact HQ.out q (by omega)
                      case measure => simp [intOf]; omega
                  · obtain rfl : m = 4 := by omega
                    go_wp2
                    go_round
                    case rel => exact ⟨k + 6, by omega, by go_num, HP.out.hex Hz.out He.out HQ.out⟩
                    case measure => simp [intOf]; omega
              · go_wp2
                go_ret
                exact ⟨Told.no, rfl⟩
            · have e9 : (e == 117) = false := beq_eq_false_iff_ne.2 h117
              go_wp2
              go_ret
              exact ⟨Told.no, rfl⟩
        · go_wp2
          go_ret
          exact ⟨Told.no, rfl⟩
      · have hb : (c == 92) = false := beq_eq_false_iff_ne.2 h92
        have hb' : (c != 92) = true := by simp [h92]
        go_wp2
        go_round
        case rel => exact ⟨k + 1, by omega, by go_num, HP.out.plain Hz.out h92⟩
        case measure => simp [intOf]; omega
    · go_wp2
      go_ret
      exact ⟨Told.yes (HP.out.whole (by have := hlen.out; omega)), rfl⟩
end Go.Proofs.Qxb6617065a
