import Derived.Test.Qxb6617065aIn
import Derived.Test.Qxb6617065aModel
import Derived.Deep.DeepCutAuto
namespace Go.Proofs.Qxb6617065a
open Go.RowKit
set_option maxHeartbeats 2000000
set_option maxRecDepth 100000
theorem match_any (a : Option Addr) (zs : List Int) (len cap : Nat) (w : World) (hlen : Hid (zs.length = len)) (hlc : len ≤ cap) (hcm : cap ≤ maxLen) (HN : Hid (a = none → cap = 0)) (h1 : Row8 w a zs) :
    Calls Try.prog 3 #[.slice a len cap] w fun e w' => e = .returned (.bool true) ∧ Below w.heap.size w w' := by
  have H1 : Hid (Row8 w a zs) := h1
  clear h1
  have hlm : Hid (len ≤ maxLen ∧ cap ≤ maxLen) := ⟨Nat.le_trans hlc hcm, hcm⟩
  clear hcm
  by_cases hbig : len ≤ 1048576
  case neg =>
    have hd : decide (len ≤ 1048576) = false := decide_eq_false hbig
    go_enter Try.func3, Try.ntmps3
    go_wp2_with (go_at_call 5; refine (bytes5_any _ _ _ _ hlm.out.1).mono ?_; rintro e w ⟨rfl, rfl⟩; rw [hd])
    go_ret
    exact ⟨rfl, Below.refl _ _⟩
  have hd : decide (len ≤ 1048576) = true := decide_eq_true hbig
  go_enter Try.func3, Try.ntmps3
  have hneq := fun (w : World) (a : Option Addr) (n c : Nat) => run_neq_slice_nil_any (P := Try.prog) w 22 5 a n c 0 0 Try.underlying22
  go_upto_if 16 with (first | (go_at_call 5; refine (bytes5_any _ _ _ _ hlm.out.1).mono ?_; rintro e w ⟨rfl, rfl⟩; rw [hd]) | (go_at_call 6; refine (wellFormed_any a zs len cap w hlen (by omega) H1.out).mono ?_; rintro e w ⟨⟨bb, rfl, hbb⟩, rfl⟩; have HW : Hid (bb = true → Well zs) := hbb; clear hbb; cases bb))
  · go_ret
    exact ⟨rfl, Below.refl _ _⟩
  obtain ⟨ts, hz, hv⟩ := HW.out (by simp)
  have hts : Hid (zs = ts.flatten ∧ ∀ t ∈ ts, Valid t) := ⟨hz, hv⟩
  clear HW hz hv hd
  go_cut [0, 3] from 6 to 23 (fun v0 _ wr => ∃ A CAP, v0 = .slice A len CAP ∧ InRow w wr A len CAP zs)
  case first =>
    cases a with
    | none =>
      go_wp2
      go_meet
      case rel => exact ⟨none, cap, rfl, Below.refl _ _, H1.out, hlc, hlm.out.2, fun _ => HN.out trivial⟩
    | some x =>
      have hmk := make1 len (by omega)
      go_wp2_with ((with_reducible show wpList _ _ _ (_ :: _) _ _); refine wpList_copy8 w rfl _ _ rfl x len cap zs hlen.out rfl rfl H1.out ?_; intro w1 hr1 hb1; have HR1 : Hid (Row8 w1 (some ⟨w.heap.size, 0, none⟩) zs) := hr1; have HB1 : Hid (Below w.heap.size w w1) := hb1; clear hr1 hb1)
      go_meet
      case rel => exact ⟨_, len, rfl, HB1.out, HR1.out, Nat.le_refl _, hlm.out.1, fun h => by cases h⟩
  case rest =>
    obtain ⟨A, CAP, rfl, hin⟩ := hcut
    obtain ⟨hb0, hr0, hlc0, hcm0, hn0⟩ := hin
    have HB : Hid (Below w.heap.size w wc) := hb0
    have HR : Hid (Row8 wc A zs) := hr0
    have HCM : Hid (CAP ≤ maxLen) := hcm0
    clear hb0 hr0 hn0 hcm0 hneq H1 HN hlm
    have HBy : Hid (∀ x ∈ unT ts, 0 ≤ x ∧ x ≤ 255) := unT_byte ts hts.out.2 (fun x hx => HR.out.byte x (by rw [hts.out.1]; exact hx))
    have hul : (unT ts).length ≤ 1048576 := by
      have h1 := unT_len ts hts.out.2 (fun x hx => by have := HR.out.byte x (by rw [hts.out.1]; exact hx); omega)
      rw [← hts.out.1, hlen.out] at h1
      omega
    obtain ⟨X, hX⟩ : ∃ X, unT ts = X := ⟨_, rfl⟩
    have HX1 : Hid (Calls Try.prog 7 #[.slice A len CAP] wc fun e w' => ∃ v, e = .returned v ∧ w'.ownsRow wc.heap.size 5 1 v X.length (B8 X) ∧ Below wc.heap.size wc w') := by
      rw [← hX]
      exact zzUnescape_any A zs ts len CAP wc hlen (by omega) hlc0 HCM.out HR.out hts
    have HX2 : Hid (∀ w1, Row8 w1 A zs → Calls Try.prog 8 #[.slice A len CAP] w1 fun e w' => ∃ v, e = .returned v ∧ w'.ownsRow w1.heap.size 5 1 v X.length (B8 X) ∧ Below w1.heap.size w1 w') := fun w1 hr => by
      rw [← hX]
      exact model_any A zs ts len CAP w1 hlen (by omega) hr hts
    rw [hX] at HBy hul
    clear hX
    obtain ⟨nn, hnn⟩ : ∃ nn, X.length = nn := ⟨_, rfl⟩
    rw [hnn] at HX1 HX2 hul
    have HN : Hid (X.length = nn) := hnn
    clear hnn
    go_wp2_with fail
    refine HX1.out.mono ?_
    rintro e w1 ⟨v1, rfl, hown1, hb1⟩
    obtain ⟨a1, c1, hv1, -, -, -, -, hr1, -⟩ := row8_of_own hown1 HBy.out
    subst hv1
    have HR1 : Hid (Row8 w1 a1 X) := hr1
    have HRA : Hid (Row8 w1 A zs) := HR.out.below hb1
    have HB1 : Hid (Below w.heap.size w w1) := HB.out.trans (hb1.mono HB.out.size)
    clear hown1 hr1 hb1 HX1 HR HB
    go_wp2_with fail
    refine (HX2.out w1 HRA.out).mono ?_
    rintro e w2 ⟨v2, rfl, hown2, hb2⟩
    obtain ⟨a2, c2, hv2, -, -, -, -, hr2, -⟩ := row8_of_own hown2 HBy.out
    subst hv2
    have HR1' : Hid (Row8 w2 a1 X) := HR1.out.below hb2
    have HR2 : Hid (Row8 w2 a2 X) := hr2
    have HB2 : Hid (Below w.heap.size w w2) := HB1.out.trans (hb2.mono HB1.out.size)
    clear hown2 hr2 hb2 HX2 HR1 HB1 HRA
    go_wp2_with fail
    refine (bytesEqual_true a1 a2 X nn c1 c2 w2 HN (by omega) HR1'.out HR2.out).mono ?_
    rintro e w3 ⟨rfl, hb3⟩
    have HB3 : Hid (Below w.heap.size w w3) := HB2.out.trans (hb3.mono HB2.out.size)
    clear hb3
    go_wp2
    go_ret
    exact ⟨rfl, HB3.out⟩
end Go.Proofs.Qxb6617065a
