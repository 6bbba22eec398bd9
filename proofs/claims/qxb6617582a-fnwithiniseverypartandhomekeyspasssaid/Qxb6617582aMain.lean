import Derived.Test.Qxb6617582aHome
namespace Go.Proofs.Qxb6617582a
open Go.RowKit Go.Maps
set_option maxHeartbeats 40000000
set_option maxRecDepth 100000
theorem made2 (w : World) (k : Nat) : ((w.alloc (.cells (madeCells #[.string ⟨#[]⟩] (k + 1)) 9)).alloc (.cells (madeCells #[.bool false] (k + 1)) 4)).rowIs (w.heap.size + 1) 4 (k + 1) (fun _ => .bool false) := by
  have h := World.rowIs_made (w.alloc (.cells (madeCells #[.string ⟨#[]⟩] (k + 1)) 9)) (.bool false) (k + 1) 4
  simp only [World.size_alloc] at h
  exact h
theorem main_any (a0 a1 a2 a3 : Option Addr) (n0 n1 n2 n3 c0 c1 c2 c3 : Nat) (ss : Nat → ByteArray) (pp qq : Nat → Int) (bs : Nat → Bool) (L ii dd q : Int) (w : World) (HF : Hid (Four w a0 a1 a2 a3 n0 n1 n2 n3 c0 c1 c2 c3 ss pp qq bs)) (hii : Hid ((Lit.int .i64 ii).wf = true)) (hdd : Hid ((Lit.int .i64 dd).wf = true)) :
    Calls Try.prog 3 #[.slice a0 n0 c0, .slice a1 n1 c1, .slice a2 n2 c2, .slice a3 n3 c3, .int .u64 L, .int .i64 ii, .int .i64 dd, .int .i64 q] w fun e w' => e = .returned (.bool true) ∧ Below w.heap.size w w' := by
  have hm0 : n0 ≤ 9223372036854775807 := Nat.le_trans HF.out.l0 HF.out.m0
  have hm1 : n1 ≤ 9223372036854775807 := Nat.le_trans HF.out.l1 HF.out.m1
  have hm2 : n2 ≤ 9223372036854775807 := Nat.le_trans HF.out.l2 HF.out.m2
  have hm3 : n3 ≤ 9223372036854775807 := Nat.le_trans HF.out.l3 HF.out.m3
  have H4 : Hid (∀ b : Nat, Calls Try.prog 4 #[.slice a0 n0 c0, .slice a1 n1 c1, .slice a2 n2 c2, .slice a3 n3 c3, .int .u64 L, .int .i64 ii, .int .i64 dd, .int .i64 q] w fun e w' => ABool e ∧ w' = w) := fun _ => bytes4_any a0 a1 a2 a3 n0 n1 n2 n3 c0 c1 c2 c3 ss L ii dd q w HF.out.r0 HF.out.s hm0 hm1 hm2 hm3
  by_cases hb0 : n0 ≤ 65536
  case neg =>
    go_enter Try.func3, Try.ntmps3
    go_wp2_with (go_at_call 4; refine (H4.out 0).mono ?_; rintro e w ⟨⟨bb, rfl⟩, rfl⟩; cases bb)
    all_goals (go_ret; exact ⟨rfl, Below.refl _ _⟩)
  by_cases hb1 : n1 ≤ 65536
  case neg =>
    go_enter Try.func3, Try.ntmps3
    go_wp2_with (go_at_call 4; refine (H4.out 0).mono ?_; rintro e w ⟨⟨bb, rfl⟩, rfl⟩; cases bb)
    all_goals (go_ret; exact ⟨rfl, Below.refl _ _⟩)
  by_cases hb2 : n2 ≤ 65536
  case neg =>
    go_enter Try.func3, Try.ntmps3
    go_wp2_with (go_at_call 4; refine (H4.out 0).mono ?_; rintro e w ⟨⟨bb, rfl⟩, rfl⟩; cases bb)
    all_goals (go_ret; exact ⟨rfl, Below.refl _ _⟩)
  by_cases hb3 : n3 ≤ 65536
  case neg =>
    go_enter Try.func3, Try.ntmps3
    go_wp2_with (go_at_call 4; refine (H4.out 0).mono ?_; rintro e w ⟨⟨bb, rfl⟩, rfl⟩; cases bb)
    all_goals (go_ret; exact ⟨rfl, Below.refl _ _⟩)
  have hneq22 := fun (w : World) (a : Option Addr) (n c : Nat) => run_neq_slice_nil_any (P := Try.prog) w 22 9 a n c 0 0 Try.underlying22
  have hneq23 := fun (w : World) (a : Option Addr) (n c : Nat) => run_neq_slice_nil_any (P := Try.prog) w 23 3 a n c 0 0 Try.underlying23
  have hneq24 := fun (w : World) (a : Option Addr) (n c : Nat) => run_neq_slice_nil_any (P := Try.prog) w 24 4 a n c 0 0 Try.underlying24
  go_enter Try.func3, Try.ntmps3
  go_upto_if 64 with (go_at_call 4; refine (H4.out 0).mono ?_; rintro e w ⟨⟨bb, rfl⟩, rfl⟩; cases bb)
  · go_ret
    exact ⟨rfl, Below.refl _ _⟩
  clear H4
  go_cut [0, 17] from 35 to 71 (fun v0 _ wr => ∃ A CAP, v0 = .slice A n0 CAP ∧ InV w wr A n0 CAP (fun j => .string (ss j)))
  case first =>
    cases a0 with
    | none =>
      go_wp2
      go_meet
      case rel => exact ⟨none, c0, rfl, Below.refl _ _, HF.out.r0, HF.out.l0, HF.out.m0, fun _ => HF.out.z0 rfl⟩
    | some x =>
      have hmk := make22 n0 (by omega)
      go_wp2_with ((with_reducible show wpList _ _ _ (_ :: _) _ _); refine wpList_copyV _ 22 9 Try.underlying22 (by kernel_rfl) rfl _ _ rfl w.heap.size n0 n0 n0 (some x) n0 c0 _ (fun j => .string (ss j)) rfl rfl (Nat.le_refl _) (Nat.le_refl _) (World.rowIs_made w _ n0 9) (HF.out.r0.below (below1 _ _)) (fun _ _ => rfl) ?_; intro w1 hr1 hg1; have HR1 : Hid (RowV w1 (some ⟨w.heap.size, 0, none⟩) n0 (fun j => .string (ss j))) := (RowV.of_row hr1 (Nat.le_refl _)).congr (fun j hj => if_pos hj); have HB1 : Hid (Below w.heap.size w w1) := (below1 w _).grown hg1 (by simp) (fun k e => by cases e; exact Nat.le_refl _); clear hr1 hg1)
      go_meet
      case rel => exact ⟨_, n0, rfl, HB1.out, HR1.out, Nat.le_refl _, hm0, fun h => by cases h⟩
  case rest =>
    obtain ⟨A0, C0, rfl, hin0⟩ := hcut
    have HI0 : Hid (InV w wc A0 n0 C0 (fun j => .string (ss j))) := hin0
    clear hin0
    obtain ⟨wA, rfl⟩ : ∃ wA : World, wA = wc := ⟨_, rfl⟩
    go_upto_if 73 with fail
    go_cut [1, 18] from 72 to 80 (fun v0 _ wr => ∃ A CAP, v0 = .slice A n1 CAP ∧ InV wA wr A n1 CAP (fun j => .int .i64 (pp j)))
    case first =>
      cases a1 with
      | none =>
        go_wp2
        go_meet
        case rel => exact ⟨none, c1, rfl, Below.refl _ _, (HF.out.r1.below HI0.out.1), HF.out.l1, HF.out.m1, fun _ => HF.out.z1 rfl⟩
      | some x =>
        have hmk := make23 n1 (by omega)
        go_wp2_with ((with_reducible show wpList _ _ _ (_ :: _) _ _); refine wpList_copyV _ 23 3 Try.underlying23 (by kernel_rfl) rfl _ _ rfl wA.heap.size n1 n1 n1 (some x) n1 c1 _ (fun j => .int .i64 (pp j)) rfl rfl (Nat.le_refl _) (Nat.le_refl _) (World.rowIs_made wA _ n1 3) (((HF.out.r1.below HI0.out.1)).below (below1 _ _)) (fun _ _ => rfl) ?_; intro w1 hr1 hg1; have HR1 : Hid (RowV w1 (some ⟨wA.heap.size, 0, none⟩) n1 (fun j => .int .i64 (pp j))) := (RowV.of_row hr1 (Nat.le_refl _)).congr (fun j hj => if_pos hj); have HB1 : Hid (Below wA.heap.size wA w1) := (below1 wA _).grown hg1 (by simp) (fun k e => by cases e; exact Nat.le_refl _); clear hr1 hg1)
        go_meet
        case rel => exact ⟨_, n1, rfl, HB1.out, HR1.out, Nat.le_refl _, hm1, fun h => by cases h⟩
    case rest =>
      obtain ⟨A1, C1, rfl, hin1⟩ := hcut
      have HI1 : Hid (InV wA wc A1 n1 C1 (fun j => .int .i64 (pp j))) := hin1
      have HBb : Hid (Below w.heap.size w wc) := HI0.out.1.trans (hin1.1.mono HI0.out.1.size)
      clear hin1
      obtain ⟨wB, rfl⟩ : ∃ wB : World, wB = wc := ⟨_, rfl⟩
      go_upto_if 82 with fail
      go_cut [2, 19] from 81 to 89 (fun v0 _ wr => ∃ A CAP, v0 = .slice A n2 CAP ∧ InV wB wr A n2 CAP (fun j => .int .i64 (qq j)))
      case first =>
        cases a2 with
        | none =>
          go_wp2
          go_meet
          case rel => exact ⟨none, c2, rfl, Below.refl _ _, (HF.out.r2.below HBb.out), HF.out.l2, HF.out.m2, fun _ => HF.out.z2 rfl⟩
        | some x =>
          have hmk := make23 n2 (by omega)
          go_wp2_with ((with_reducible show wpList _ _ _ (_ :: _) _ _); refine wpList_copyV _ 23 3 Try.underlying23 (by kernel_rfl) rfl _ _ rfl wB.heap.size n2 n2 n2 (some x) n2 c2 _ (fun j => .int .i64 (qq j)) rfl rfl (Nat.le_refl _) (Nat.le_refl _) (World.rowIs_made wB _ n2 3) (((HF.out.r2.below HBb.out)).below (below1 _ _)) (fun _ _ => rfl) ?_; intro w1 hr1 hg1; have HR1 : Hid (RowV w1 (some ⟨wB.heap.size, 0, none⟩) n2 (fun j => .int .i64 (qq j))) := (RowV.of_row hr1 (Nat.le_refl _)).congr (fun j hj => if_pos hj); have HB1 : Hid (Below wB.heap.size wB w1) := (below1 wB _).grown hg1 (by simp) (fun k e => by cases e; exact Nat.le_refl _); clear hr1 hg1)
          go_meet
          case rel => exact ⟨_, n2, rfl, HB1.out, HR1.out, Nat.le_refl _, hm2, fun h => by cases h⟩
      case rest =>
        obtain ⟨A2, C2, rfl, hin2⟩ := hcut
        have HI2 : Hid (InV wB wc A2 n2 C2 (fun j => .int .i64 (qq j))) := hin2
        have HBc : Hid (Below w.heap.size w wc) := HBb.out.trans (hin2.1.mono HBb.out.size)
        clear hin2
        obtain ⟨wC, rfl⟩ : ∃ wC : World, wC = wc := ⟨_, rfl⟩
        go_upto_if 91 with fail
        go_cut [3, 20] from 90 to 98 (fun v0 _ wr => ∃ A CAP, v0 = .slice A n3 CAP ∧ InV wC wr A n3 CAP (fun j => .bool (bs j)))
        case first =>
          cases a3 with
          | none =>
            go_wp2
            go_meet
            case rel => exact ⟨none, c3, rfl, Below.refl _ _, (HF.out.r3.below HBc.out), HF.out.l3, HF.out.m3, fun _ => HF.out.z3 rfl⟩
          | some x =>
            have hmk := make24 n3 (by omega)
            go_wp2_with ((with_reducible show wpList _ _ _ (_ :: _) _ _); refine wpList_copyV _ 24 4 Try.underlying24 (by kernel_rfl) rfl _ _ rfl wC.heap.size n3 n3 n3 (some x) n3 c3 _ (fun j => .bool (bs j)) rfl rfl (Nat.le_refl _) (Nat.le_refl _) (World.rowIs_made wC _ n3 4) (((HF.out.r3.below HBc.out)).below (below1 _ _)) (fun _ _ => rfl) ?_; intro w1 hr1 hg1; have HR1 : Hid (RowV w1 (some ⟨wC.heap.size, 0, none⟩) n3 (fun j => .bool (bs j))) := (RowV.of_row hr1 (Nat.le_refl _)).congr (fun j hj => if_pos hj); have HB1 : Hid (Below wC.heap.size wC w1) := (below1 wC _).grown hg1 (by simp) (fun k e => by cases e; exact Nat.le_refl _); clear hr1 hg1)
            go_meet
            case rel => exact ⟨_, n3, rfl, HB1.out, HR1.out, Nat.le_refl _, hm3, fun h => by cases h⟩
        case rest =>
          obtain ⟨A3, C3, rfl, hin3⟩ := hcut
          have HF2 : Hid (Four wc A0 A1 A2 A3 n0 n1 n2 n3 C0 C1 C2 C3 ss pp qq bs) := by
            have b3 := hin3.1
            have b2 := HI2.out.1.trans (b3.mono HI2.out.1.size)
            have b1 := HI1.out.1.trans (b2.mono HI1.out.1.size)
            exact ⟨HI0.out.2.1.below b1, HI1.out.2.1.below b2, HI2.out.2.1.below b3, hin3.2.1, HI0.out.2.2.1, HI1.out.2.2.1, HI2.out.2.2.1, hin3.2.2.1, HI0.out.2.2.2.1, HI1.out.2.2.2.1, HI2.out.2.2.2.1, hin3.2.2.2.1, HI0.out.2.2.2.2, HI1.out.2.2.2.2, HI2.out.2.2.2.2, hin3.2.2.2.2, HF.out.s, HF.out.p, HF.out.q⟩
          have HBd : Hid (Below w.heap.size w wc) := HBc.out.trans (hin3.1.mono HBc.out.size)
          clear hin3 HI0 HI1 HI2 HBb HBc HF hneq22 hneq23 hneq24
          obtain ⟨wD, rfl⟩ : ∃ wD : World, wD = wc := ⟨_, rfl⟩
          go_wp2
          go_loop [21, 22] (fun vz vi => ∃ (z : Int) (k : Nat), 0 ≤ z ∧ z ≤ 2162688 ∧ k ≤ n0 ∧ vz = .int .i64 z ∧ vi = .int .i64 k) (fun _ vi => n0 - (intOf vi).toNat)
          case atStart => exact ⟨_, 0, by omega, by omega, Nat.zero_le _, rfl, rfl⟩
          case round =>
            obtain ⟨z, k, hz0, hz1, hk, rfl, rfl⟩ := hrel
            by_cases hlt : k < n0
            · obtain ⟨b0, o0, ha0, l0, e0⟩ := HF2.out.r0.at hlt
              subst ha0
              have hs0 := HF2.out.s k hlt
              unfold maxLen at hs0
              have hlt' : (k : Int) < (n0 : Int) := by omega
              obtain ⟨S, hS⟩ : ∃ S, ss k = S := ⟨_, rfl⟩
              rw [hS] at e0 hs0
              clear hS
              by_cases hz2 : z ≤ 1048576
              · by_cases hb1 : S.size ≤ 1048576
                · go_wp2
                  go_round
                  case rel => exact ⟨z + S.size, k + 1, by omega, by omega, by omega, by go_num, by go_num⟩
                  case measure => simp [intOf]; omega
                · go_wp2
                  go_ret
                  exact ⟨rfl, HBd.out⟩
              · go_wp2
                go_ret
                exact ⟨rfl, HBd.out⟩
            · obtain rfl : n0 = k := by omega
              by_cases hz2 : z ≤ 1048576
              case neg =>
                go_wp2
                go_ret
                exact ⟨rfl, HBd.out⟩
              clear hlt hk
              by_cases he1 : n1 = n0
              case neg =>
                have hne : ((n1 : Int) != (n0 : Int)) = true := by simp; omega
                go_wp2
                go_ret
                exact ⟨rfl, HBd.out⟩
              subst he1
              by_cases he2 : n2 = n1
              case neg =>
                have hne : ((n2 : Int) != (n1 : Int)) = true := by simp; omega
                go_wp2
                go_ret
                exact ⟨rfl, HBd.out⟩
              subst he2
              by_cases he3 : n3 = n2
              case neg =>
                have hne : ((n3 : Int) != (n2 : Int)) = true := by simp; omega
                go_wp2
                go_ret
                exact ⟨rfl, HBd.out⟩
              subst he3
              by_cases hq0 : q < 0
              · go_wp2
                go_ret
                exact ⟨rfl, HBd.out⟩
              by_cases hq1 : (n3 : Int) < q
              · go_wp2
                go_ret
                exact ⟨rfl, HBd.out⟩
              obtain ⟨k, rfl⟩ : ∃ k : Nat, q = k := ⟨q.toNat, by omega⟩
              have hkn : k ≤ n3 := by omega
              have HKok : Hid (∀ i, i < n3 → KOk ss pp qq i) := fun i hi => ⟨HF2.out.s i hi, HF2.out.p i hi, HF2.out.q i hi⟩
              have HKk : Hid (∀ i, i < k → KOk ss pp qq i) := fun i hi => HKok.out i (by omega)
              have HKr : Hid (∀ i, i < n3 - k → KOk (fun j => ss (k + j)) (fun j => pp (k + j)) (fun j => qq (k + j)) i) := fun i hi => HKok.out (k + i) (by omega)
              obtain ⟨b2, hL⟩ := a_bool (AllAt pp qq k ii dd)
              obtain ⟨b3, hR⟩ := a_bool (AllAt (fun j => pp (k + j)) (fun j => qq (k + j)) (n3 - k) ii dd)
              have HL : Hid (b2 = true ↔ AllAt pp qq k ii dd) := hL
              have HR : Hid (b3 = true ↔ AllAt (fun j => pp (k + j)) (fun j => qq (k + j)) (n3 - k) ii dd) := hR
              have HW : Hid ((b2 && b3) = true ↔ AllAt pp qq n3 ii dd) := by
                show _ ↔ _
                rw [allAt_split hkn, Bool.and_eq_true, hL, hR]
              clear hL hR
              have h22 := run_hi Try.underlying22 size9 A0 n3 C0 k (by have := HF2.out.l0; omega) HF2.out.z0
              have h23 := run_hi Try.underlying23 size3 A1 n3 C1 k (by have := HF2.out.l1; omega) HF2.out.z1
              have h23' := run_hi Try.underlying23 size3 A2 n3 C2 k (by have := HF2.out.l2; omega) HF2.out.z2
              have h24 := run_hi Try.underlying24 size4 A3 n3 C3 k (by have := HF2.out.l3; omega) HF2.out.z3
              have l22 := run_lo Try.underlying22 size9 A0 n3 C0 k hkn HF2.out.l0 HF2.out.z0
              have l23 := run_lo Try.underlying23 size3 A1 n3 C1 k hkn HF2.out.l1 HF2.out.z1
              have l23' := run_lo Try.underlying23 size3 A2 n3 C2 k hkn HF2.out.l2 HF2.out.z2
              have l24 := run_lo Try.underlying24 size4 A3 n3 C3 k hkn HF2.out.l3 HF2.out.z3
              go_wp2_with fail
              refine (zzWithin_any A0 A1 A2 A3 n3 C0 C1 C2 C3 ss pp qq bs L ii dd wD HF2.out.r0 HF2.out.r1 HF2.out.r2 HF2.out.r3 (by omega) HKok (b2 && b3) HW).mono ?_
              rintro e w1 ⟨rfl, hb1⟩
              have HF3 : Hid (Four w1.drew A0 A1 A2 A3 n3 n3 n3 n3 C0 C1 C2 C3 ss pp qq bs) := HF2.out.below hb1.drew
              have HB1 : Hid (Below w.heap.size w w1.drew) := (HBd.out.trans (hb1.mono HBd.out.size)).drew
              clear hb1 HF2 HBd
              go_wp2
              go_region_held3 (fun _ => True) (trivial) (first | (go_at_call 5; refine (zzWithin_any A0 A1 A2 A3 k C0 C1 C2 C3 ss pp qq bs L ii dd _ (HF3.out.r0.take hkn) (HF3.out.r1.take hkn) (HF3.out.r2.take hkn) (HF3.out.r3.take hkn) (by omega) HKk b2 HL).mono ?_; rintro e w2 ⟨rfl, hb2⟩; have HF4 : Hid (Four w2.drew A0 A1 A2 A3 n3 n3 n3 n3 C0 C1 C2 C3 ss pp qq bs) := HF3.out.below hb2.drew; have HB2 : Hid (Below w.heap.size w w2.drew) := (HB1.out.trans (hb2.mono HB1.out.size)).drew))
              clear HF3 HB1 h22 h23 h23' h24
              try (rename_i hHeld; clear hHeld)
              go_wp2
              go_region_held3 (fun _ => True) (trivial) (first | (go_at_call 5; refine (zzWithin_any (shiftA A0 C0 k) (shiftA A1 C1 k) (shiftA A2 C2 k) (shiftA A3 C3 k) (n3 - k) (C0 - k) (C1 - k) (C2 - k) (C3 - k) (fun j => ss (k + j)) (fun j => pp (k + j)) (fun j => qq (k + j)) (fun j => bs (k + j)) L ii dd _ (HF4.out.r0.drop HF4.out.l0 hkn) (HF4.out.r1.drop HF4.out.l1 hkn) (HF4.out.r2.drop HF4.out.l2 hkn) (HF4.out.r3.drop HF4.out.l3 hkn) (by omega) HKr b3 HR).mono ?_; rintro e w3 ⟨rfl, hb3⟩; have HF5 : Hid (Four w3 A0 A1 A2 A3 n3 n3 n3 n3 C0 C1 C2 C3 ss pp qq bs) := HF4.out.below hb3; have HB3 : Hid (Below w.heap.size w w3) := HB2.out.trans (hb3.mono HB2.out.size)))
              clear HF4 HB2 l22 l23 l23' l24 HL HR HW HKr hb3 hb2
              have hmk := make23 (k + 1) (by omega)
              simp only [Int.natCast_add, Int.natCast_one] at hmk
              go_wp2
              all_goals
                clear hmk
                go_loopw [29] (fun vi wr => HRel w3 k ii dd vi wr) (fun vi _ => k - (intOf vi).toNat)
                case atStart => exact home_start w3 k ii dd _ rfl
                case round =>
                  obtain ⟨i, hi, rfl, HRI, HRD, hbel⟩ := hrel
                  by_cases hlt : i < k
                  · have x0 := HRI.out.cell (show i < k + 1 by omega)
                    have x1 := HRD.out.cell (show i < k + 1 by omega)
                    have f0 := HRI.out.frozen i
                    have f1 := HRD.out.frozen i
                    go_wp2
                    go_roundw
                    case rel => exact home_step hlt HRI.out HRD.out hbel.out (by simp)
                    case measure => simp [intOf]; omega
                  · obtain rfl : k = i := by omega
                    clear hlt hi
                    have HFr : Hid (Four wr.drew A0 A1 A2 A3 n3 n3 n3 n3 C0 C1 C2 C3 ss pp qq bs) := HF5.out.below hbel.out.drew
                    have HBr : Hid (Below w.heap.size w wr.drew) := (HB3.out.trans (hbel.out.mono HB3.out.size)).drew
                    have HI1 : Hid (RowV wr.drew (some ⟨w3.heap.size, 0, none⟩) k (fun _ => .int .i64 ii)) := (RowV.of_row (w := wr.drew) HRI.out (Nat.le_succ k)).congr (fun j hj => by simp [Fh, hj])
                    have HD1 : Hid (RowV wr.drew (some ⟨w3.heap.size + 1, 0, none⟩) k (fun _ => .int .i64 dd)) := (RowV.of_row (w := wr.drew) HRD.out (Nat.le_succ k)).congr (fun j hj => by simp [Fh, hj])
                    have HKh : Hid (∀ i, i < k → KOk ss (fun _ => ii) (fun _ => dd) i) := fun i hi => ⟨(HKk.out i hi).1, hii.out, hdd.out⟩
                    have h22 := run_hi Try.underlying22 size9 A0 n3 C0 k (by have := HFr.out.l0; omega) HFr.out.z0
                    have h24 := run_hi Try.underlying24 size4 A3 n3 C3 k (by have := HFr.out.l3; omega) HFr.out.z3
                    have hhI := run_hi Try.underlying23 size3 (some ⟨w3.heap.size, 0, none⟩) (k + 1) (k + 1) k (by omega) (fun h => by cases h)
                    have hhD := run_hi Try.underlying23 size3 (some ⟨w3.heap.size + 1, 0, none⟩) (k + 1) (k + 1) k (by omega) (fun h => by cases h)
                    have hlG : w3.heap.size + 1 < wr.heap.size := HRD.out.lt
                    have hwG : w.heap.size ≤ w3.heap.size := HB3.out.size
                    go_wp2
                    go_region_held3 (fun _ => True) (trivial) (first | (go_at_call 5; refine (zzWithin_any A0 (some ⟨w3.heap.size, 0, none⟩) (some ⟨w3.heap.size + 1, 0, none⟩) A3 k C0 (k + 1) (k + 1) C3 ss (fun _ => ii) (fun _ => dd) bs L ii dd _ (HFr.out.r0.take hkn) HI1 HD1 (HFr.out.r3.take hkn) (by omega) HKh true (show true = true ↔ AllAt (fun _ => ii) (fun _ => dd) k ii dd from ⟨fun _ _ _ => ⟨rfl, rfl⟩, fun _ => rfl⟩)).mono ?_; rintro e w4 ⟨rfl, hb4⟩; have HB4 : Hid (Below w.heap.size w w4) := HBr.out.trans (hb4.mono HBr.out.size); have HX4 : Hid (Below w3.heap.size w3 w4) := hbel.out.drew.trans (hb4.mono hbel.out.size); have HRI4 : Hid (w4.rowIs w3.heap.size 3 (k + 1) (Fh k ii)) := HRI.out.of_block (hb4.block _ (show w3.heap.size < wr.heap.size by omega)); have HRD4 : Hid (w4.rowIs (w3.heap.size + 1) 3 (k + 1) (Fh k dd)) := HRD.out.of_block (hb4.block _ (show w3.heap.size + 1 < wr.heap.size by omega)); clear hb4))
                    try (rename_i hHeld; clear hHeld)
                    clear HFr HBr HI1 HD1 HKh hhI hhD hlG HRI HRD hbel
                    by_cases hlast : k < n3
                    case neg =>
                      go_wp2
                      go_ret
                      exact ⟨rfl, HB4.out⟩
                    obtain ⟨p0, o0, ha0, l0, e0⟩ := HF5.out.r0.at hlast
                    obtain ⟨p1, o1, ha1, l1, e1⟩ := HF5.out.r1.at hlast
                    obtain ⟨p2, o2, ha2, l2, e2⟩ := HF5.out.r2.at hlast
                    obtain ⟨p3, o3, ha3, l3, e3⟩ := HF5.out.r3.at hlast
                    subst ha0 ha1 ha2 ha3
                    have HF6 : Hid (Four w4 (some ⟨p0, o0, none⟩) (some ⟨p1, o1, none⟩) (some ⟨p2, o2, none⟩) (some ⟨p3, o3, none⟩) n3 n3 n3 n3 C0 C1 C2 C3 ss pp qq bs) := HF5.out.below HX4.out
                    have HM2 : Hid (((w4.alloc (.cells (madeCells #[.string ⟨#[]⟩] (k + 1)) 9)).alloc (.cells (madeCells #[.bool false] (k + 1)) 4)).rowIs (w4.heap.size + 1) 4 (k + 1) (fun _ => .bool false)) := made2 w4 k
                    have hms := make22 (k + 1) (by omega)
                    have hmp := make24 (k + 1) (by omega)
                    simp only [Int.natCast_add, Int.natCast_one] at hms hmp
                    have hlast' : (k : Int) < (n3 : Int) := by omega
                    have hlG4 : w3.heap.size + 1 < w4.heap.size := HRD4.out.lt
                    have HL4 : Hid ((w3.cell? ⟨p0, o0 + k, none⟩ = some (.string (ss k)) ∧ w3.cell? ⟨p1, o1 + k, none⟩ = some (.int .i64 (pp k))) ∧ w3.cell? ⟨p2, o2 + k, none⟩ = some (.int .i64 (qq k)) ∧ w3.cell? ⟨p3, o3 + k, none⟩ = some (.bool (bs k))) := ⟨⟨e0, e1⟩, e2, e3⟩
                    clear e0 e1 e2 e3
                    go_wp2_with (first | (have hTok := HM2.out; clear hTok; (with_reducible show wpList _ _ _ (_ :: _) _ _); refine wpList_copyV _ 22 9 Try.underlying22 (by kernel_rfl) rfl _ _ rfl w4.heap.size (k + 1) (k + 1) (k + 1) (some ⟨p0, o0, none⟩) k C0 _ (fun j => .string (ss j)) rfl rfl (by omega) (by omega) ((World.rowIs_made w4 _ (k + 1) 9).alloc _) ((HF6.out.r0.take hkn).below ((below1 w4 _).alloc (by simp) _)) (fun _ _ => rfl) ?_; intro w5 hr5 hg5; have HS5 : Hid (w5.rowIs w4.heap.size 9 (k + 1) (fun j => if j < k then .string (ss j) else .string ⟨#[]⟩)) := hr5; have HP5 : Hid (w5.rowIs (w4.heap.size + 1) 4 (k + 1) (fun _ => .bool false)) := HM2.out.of_block (hg5.block _ (by simp) (by simp)); have HB5 : Hid (Below w4.heap.size w4 w5) := ((below1 w4 _).alloc (by simp) _).grown hg5 (by simp; omega) (fun k e => by cases e; exact Nat.le_refl _); clear hr5 hg5 HM2) | (have hTok := HP5.out; clear hTok; (with_reducible show wpList _ _ _ (_ :: _) _ _); refine wpList_copyV _ 24 4 Try.underlying24 (by kernel_rfl) rfl _ _ rfl (w4.heap.size + 1) (k + 1) (k + 1) (k + 1) (some ⟨p3, o3, none⟩) k C3 _ (fun j => .bool (bs j)) rfl rfl (by omega) (by omega) HP5.out ((HF6.out.r3.take hkn).below HB5.out) (fun _ _ => rfl) ?_; intro w6 hr6 hg6; have HP6 : Hid (w6.rowIs (w4.heap.size + 1) 4 (k + 1) (fun j => if j < k then .bool (bs j) else .bool false)) := hr6; have HS6 : Hid (w6.rowIs w4.heap.size 9 (k + 1) (fun j => if j < k then .string (ss j) else .string ⟨#[]⟩)) := HS5.out.of_block (hg6.block _ HS5.out.lt (by simp)); have HB6 : Hid (Below w4.heap.size w4 w6) := HB5.out.grown hg6 HB5.out.size (fun k e => by cases e; exact Nat.le_succ _); have HX6 : Hid (Below w3.heap.size w3 w6) := HX4.out.trans (HB6.out.mono HX4.out.size); have HRI6 : Hid (w6.rowIs w3.heap.size 3 (k + 1) (Fh k ii)) := HRI4.out.of_block (HB6.out.block _ HRI4.out.lt); have HRD6 : Hid (w6.rowIs (w3.heap.size + 1) 3 (k + 1) (Fh k dd)) := HRD4.out.of_block (HB6.out.block _ HRD4.out.lt); have y0 := HS6.out.cell (Nat.lt_succ_self k); have y1 := HP6.out.cell (Nat.lt_succ_self k); have y2 := HRI6.out.cell (Nat.lt_succ_self k); have y3 := HRD6.out.cell (Nat.lt_succ_self k); have t0 := HS6.out.frozen k; have t1 := HP6.out.frozen k; have t2 := HRI6.out.frozen k; have t3 := HRD6.out.frozen k; have e0 : w6.cell? ⟨p0, o0 + k, none⟩ = some (.string (ss k)) := (HX6.out.cell (p := ⟨p0, o0 + k, none⟩) l0).trans HL4.out.1.1; have e1 : w6.cell? ⟨p1, o1 + k, none⟩ = some (.int .i64 (pp k)) := (HX6.out.cell (p := ⟨p1, o1 + k, none⟩) l1).trans HL4.out.1.2; have e2 : w6.cell? ⟨p2, o2 + k, none⟩ = some (.int .i64 (qq k)) := (HX6.out.cell (p := ⟨p2, o2 + k, none⟩) l2).trans HL4.out.2.1; have e3 : w6.cell? ⟨p3, o3 + k, none⟩ = some (.bool (bs k)) := (HX6.out.cell (p := ⟨p3, o3 + k, none⟩) l3).trans HL4.out.2.2; clear hr6 hg6 HS5 HP5))
                    have HR7 := last_rows (w := w6) (gS := w4.heap.size) (gP := w4.heap.size + 1) (gI := w3.heap.size) (gD := w3.heap.size + 1) (y := pp k) (z := qq k) (by omega) (by omega) (by omega) (by omega) (by omega) (by omega) HS6.out HP6.out HRI6.out HRD6.out
                    have hb7 : Below w3.heap.size w3 ((((w6.setCell ⟨w4.heap.size, k, none⟩ (.string (ss k))).setCell ⟨w4.heap.size + 1, k, none⟩ (.bool (bs k))).setCell ⟨w3.heap.size, k, none⟩ (.int .i64 (pp k))).setCell ⟨w3.heap.size + 1, k, none⟩ (.int .i64 (qq k))) :=
                      (((HX6.out.setCell (p := ⟨w4.heap.size, k, none⟩) (show w3.heap.size ≤ w4.heap.size by omega) _).setCell (p := ⟨w4.heap.size + 1, k, none⟩) (show w3.heap.size ≤ w4.heap.size + 1 by omega) _).setCell (p := ⟨w3.heap.size, k, none⟩) (Nat.le_refl _) _).setCell (p := ⟨w3.heap.size + 1, k, none⟩) (Nat.le_succ _) _
                    clear y0 y1 y2 y3 t0 t1 t2 t3 e0 e1 e2 e3 HS6 HP6 HRI6 HRD6 HX6 HB6 hms hmp h22 h24
                    generalize (((w6.setCell ⟨w4.heap.size, k, none⟩ (.string (ss k))).setCell ⟨w4.heap.size + 1, k, none⟩ (.bool (bs k))).setCell ⟨w3.heap.size, k, none⟩ (.int .i64 (pp k))).setCell ⟨w3.heap.size + 1, k, none⟩ (.int .i64 (qq k)) = w7 at HR7 hb7 ⊢
                    have HKl : Hid (∀ i, i < k + 1 → KOk ss (Fl k ii (pp k)) (Fl k dd (qq k)) i) := fun i hi => by
                      have hK := HKok.out k hlast
                      refine ⟨(HKok.out i (by omega)).1, ?_, ?_⟩
                      · unfold Fl
                        split
                        · exact hK.2.1
                        · exact hii.out
                      · unfold Fl
                        split
                        · exact hK.2.2
                        · exact hdd.out
                    obtain ⟨b5, h5⟩ := a_bool (pp k = ii ∧ qq k = dd)
                    have H5 : Hid (b5 = true ↔ pp k = ii ∧ qq k = dd) := h5
                    clear h5
                    refine (zzWithin_any (some ⟨w4.heap.size, 0, none⟩) (some ⟨w3.heap.size, 0, none⟩) (some ⟨w3.heap.size + 1, 0, none⟩) (some ⟨w4.heap.size + 1, 0, none⟩) (k + 1) (k + 1) (k + 1) (k + 1) (k + 1) ss (Fl k ii (pp k)) (Fl k dd (qq k)) bs L ii dd w7 HR7.r0 HR7.r1 HR7.r2 HR7.r3 (by omega) HKl b5 (H5.out.trans allAt_last.symm)).mono ?_
                    rintro e w8 ⟨rfl, hb8⟩
                    have HX8 : Hid (Below w3.heap.size w3 w8) := hb7.trans (hb8.mono hb7.size)
                    have HB8 : Hid (Below w.heap.size w w8) := HB3.out.trans (HX8.out.mono hwG)
                    have e1 : w8.cell? ⟨p1, o1 + k, none⟩ = some (.int .i64 (pp k)) := (HX8.out.cell (p := ⟨p1, o1 + k, none⟩) l1).trans HL4.out.1.2
                    have e2 : w8.cell? ⟨p2, o2 + k, none⟩ = some (.int .i64 (qq k)) := (HX8.out.cell (p := ⟨p2, o2 + k, none⟩) l2).trans HL4.out.2.1
                    clear hb8 hb7 HR7 HKl HL4
                    by_cases hp : pp k = ii
                    · by_cases hq : qq k = dd
                      · have hb5 : b5 = true := H5.out.2 ⟨hp, hq⟩
                        have r1 : (pp k == ii) = true := beq_iff_eq.2 hp
                        have r2 : (qq k == dd) = true := beq_iff_eq.2 hq
                        subst hb5
                        clear hp hq H5
                        go_wp2
                        go_ret
                        exact ⟨rfl, HB8.out⟩
                      · have hb5 : b5 = false := by
                          cases hc : b5 with
                          | false => rfl
                          | true => exact absurd (H5.out.1 hc).2 hq
                        have r1 : (pp k == ii) = true := beq_iff_eq.2 hp
                        have r2 : (qq k == dd) = false := beq_eq_false_iff_ne.2 hq
                        subst hb5
                        clear hp hq H5
                        go_wp2
                        go_ret
                        exact ⟨rfl, HB8.out⟩
                    · have hb5 : b5 = false := by
                        cases hc : b5 with
                        | false => rfl
                        | true => exact absurd (H5.out.1 hc).1 hp
                      have r1 : (pp k == ii) = false := beq_eq_false_iff_ne.2 hp
                      subst hb5
                      clear hp H5
                      go_wp2
                      go_ret
                      exact ⟨rfl, HB8.out⟩
end Go.Proofs.Qxb6617582a
