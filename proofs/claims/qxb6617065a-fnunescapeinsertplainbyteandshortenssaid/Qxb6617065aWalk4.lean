import Derived.Test.Qxb6617065aIn
import Derived.Deep.DeepCutAuto
import Derived.Laws.OwnMore
namespace Go.Proofs.Qxb6617065a
open Go.RowKit
set_option maxHeartbeats 2000000
set_option maxRecDepth 100000
/-- the text with one byte put in -/
theorem put_flat {zs : List Int} {pre post : List (List Int)} (c : Int) (hz : zs = (pre ++ post).flatten) {k : Nat} (hk : k = pre.flatten.length) : zs.take k = pre.flatten ∧ zs.drop k = post.flatten ∧ zs.take k ++ [c] ++ zs.drop k = (pre ++ [c] :: post).flatten := by
  subst hz
  rw [List.flatten_append]
  have e1 : (pre.flatten ++ post.flatten).take k = pre.flatten := by rw [hk, List.take_left']; rfl
  have e2 : (pre.flatten ++ post.flatten).drop k = post.flatten := by rw [hk, List.drop_left']; rfl
  refine ⟨e1, e2, ?_⟩
  rw [e1, e2]
  simp
theorem unT_put (pre post : List (List Int)) (c : Int) : unT (pre ++ [c] :: post) = unT pre ++ [c] ++ unT post := by
  unfold unT
  rw [List.map_append, List.map_cons]
  show unM (pre.map unit ++ (false, c) :: post.map unit) = _
  rw [unM_insert]
  simp
theorem snoc_take (xs : List Int) {i : Nat} {c : Int} (h : xs[i]? = some c) : xs.take (i + 1) = xs.take i ++ [c] := by
  rw [List.take_add_one, h]
  rfl
theorem snoc_drop (xs : List Int) {i k : Nat} {c : Int} (h : xs[i]? = some c) (hk : k ≤ i) : (xs.take (i + 1)).drop k = (xs.take i).drop k ++ [c] := by
  have hi : i < xs.length := (List.getElem?_eq_some_iff.1 h).1
  rw [snoc_take xs h, List.drop_append_of_le_length (by rw [List.length_take]; omega)]
/-- the loop's row -/
theorem ApRel.own {W wr : World} {o : Nat → List Int} {i : Nat} {v : Value} {xs : List Int} (h : wr.ownsRow W.heap.size 5 1 v (o i).length (B8 (o i))) (e : o i = xs) : wr.ownsRow W.heap.size 5 1 v xs.length (B8 xs) := by rw [← e]; exact h
theorem insert_any (a : Option Addr) (zs : List Int) (len cap : Nat) (q c : Int) (w : World) (hlen : Hid (zs.length = len)) (hlc : len ≤ cap) (hcm : cap ≤ maxLen) (HN : Hid (a = none → cap = 0)) (h1 : Row8 w a zs) (hc0 : 0 ≤ c) (hc1 : c ≤ 255) :
    Calls Try.prog 4 #[.slice a len cap, .int .i64 q, .int .u8 c] w fun e w' => e = .returned (.bool true) ∧ Below w.heap.size w w' := by
  have H1 : Hid (Row8 w a zs) := h1
  clear h1
  have hlm : Hid (len ≤ maxLen ∧ cap ≤ maxLen) := ⟨Nat.le_trans hlc hcm, hcm⟩
  clear hcm
  by_cases hbig : len ≤ 1048576
  case neg =>
    have hd : decide (len ≤ 1048576) = false := decide_eq_false hbig
    go_enter Try.func4, Try.ntmps4
    go_wp2_with (go_at_call 10; refine (bytes10_any _ _ _ _ _ _ hlm.out.1).mono ?_; rintro e w ⟨rfl, rfl⟩; rw [hd])
    go_ret
    exact ⟨rfl, Below.refl _ _⟩
  have hd : decide (len ≤ 1048576) = true := decide_eq_true hbig
  by_cases hq0 : q < 0
  · go_enter Try.func4, Try.ntmps4
    go_wp2_with (go_at_call 10; refine (bytes10_any _ _ _ _ _ _ hlm.out.1).mono ?_; rintro e w ⟨rfl, rfl⟩; rw [hd])
    go_ret
    exact ⟨rfl, Below.refl _ _⟩
  by_cases hql : (len : Int) < q
  · go_enter Try.func4, Try.ntmps4
    go_wp2_with (go_at_call 10; refine (bytes10_any _ _ _ _ _ _ hlm.out.1).mono ?_; rintro e w ⟨rfl, rfl⟩; rw [hd])
    go_ret
    exact ⟨rfl, Below.refl _ _⟩
  by_cases h92 : c = 92
  · subst h92
    go_enter Try.func4, Try.ntmps4
    go_wp2_with (go_at_call 10; refine (bytes10_any _ _ _ _ _ _ hlm.out.1).mono ?_; rintro e w ⟨rfl, rfl⟩; rw [hd])
    go_ret
    exact ⟨rfl, Below.refl _ _⟩
  have hb92 : (c == 92) = false := beq_eq_false_iff_ne.2 h92
  go_enter Try.func4, Try.ntmps4
  have hneq := fun (w : World) (a : Option Addr) (n c : Nat) => run_neq_slice_nil_any (P := Try.prog) w 22 5 a n c 0 0 Try.underlying22
  go_upto_if 44 with (first | (go_at_call 10; refine (bytes10_any _ _ _ _ _ _ hlm.out.1).mono ?_; rintro e w ⟨rfl, rfl⟩; rw [hd]) | (go_at_call 6; refine (wellFormed_any a zs len cap w hlen (by omega) H1.out).mono ?_; rintro e w ⟨⟨bb, rfl, hbb⟩, rfl⟩; have HW : Hid (bb = true → Well zs) := hbb; clear hbb; cases bb) | (go_at_call 11; obtain ⟨ts, hz, hv⟩ := HW.out (by simp); have hts : Hid (zs = ts.flatten ∧ ∀ t ∈ ts, Valid t) := ⟨hz, hv⟩; clear HW hz hv; refine (tokenBoundary_any a zs ts len cap q w hlen (by omega) H1.out hts).mono ?_; rintro e w ⟨⟨bb, rfl, hbb⟩, rfl⟩; have HT : Hid (bb = true → ∃ n : Nat, q = n ∧ Cut ts n) := hbb; clear hbb; cases bb))
  · go_ret
    exact ⟨rfl, Below.refl _ _⟩
  · go_ret
    exact ⟨rfl, Below.refl _ _⟩
  obtain ⟨k, rfl, hcut⟩ := HT.out (by simp)
  have HCut : Hid (Cut ts k) := hcut
  clear HT hcut hd
  go_cut [0, 7] from 18 to 51 (fun v0 _ wr => ∃ A CAP, v0 = .slice A len CAP ∧ InRow w wr A len CAP zs)
  case first =>
    cases a with
    | none =>
      go_wp2
      go_meet
      case rel => exact ⟨none, cap, rfl, Below.refl _ _, H1.out, hlc, hlm.out.2, fun _ => HN.out trivial⟩
    | some x =>
      have hmk := make1 len (by omega)
      go_wp2_with ((with_reducible show wpList _ _ _ (_ :: _) _ _); refine wpList_copy8 w rfl _ _ rfl x len cap zs hlen.out rfl rfl H1.out ?_; intro w1 hr1 hb1; have HR1 : Hid (Row8 w1 (some ⟨w.heap.size, 0, none⟩) zs) := hr1; have HB1 : Hid (Below w.heap.size w w1) := hb1; clear hr1 hb1)
      go_meet
      case rel => exact ⟨_, len, rfl, HB1.out, HR1.out, Nat.le_refl _, hlm.out.1, fun h => by cases h⟩
  case rest =>
    obtain ⟨A, CAP, rfl, hin⟩ := hcut
    obtain ⟨hb0, hr0, hlc0, hcm0, hn0⟩ := hin
    have HB : Hid (Below w.heap.size w wc) := hb0
    have HR : Hid (Row8 wc A zs) := hr0
    have HNA : Hid (A = none → CAP = 0) := hn0
    have HCM : Hid (CAP ≤ maxLen) := hcm0
    clear hb0 hr0 hn0 hcm0 hneq H1 HN hlm
    have hkl : k ≤ len := by omega
    obtain ⟨pre, post, hpp, hkk⟩ := HCut.out
    have HP : Hid (zs.take k = pre.flatten ∧ zs.drop k = post.flatten ∧ zs.take k ++ [c] ++ zs.drop k = (pre ++ [c] :: post).flatten) := put_flat c (by rw [← hpp]; exact hts.out.1) hkk
    have HV : Hid ((∀ t ∈ pre, Valid t) ∧ (∀ t ∈ post, Valid t) ∧ ∀ t ∈ pre ++ [c] :: post, Valid t) := by
      have h0 := hts.out.2
      rw [hpp] at h0
      refine ⟨fun t ht => h0 t (by simp [ht]), fun t ht => h0 t (by simp [ht]), fun t ht => ?_⟩
      rw [List.mem_append, List.mem_cons] at ht
      rcases ht with h | rfl | h
      · exact h0 t (by simp [h])
      · exact .inl ⟨c, rfl, h92⟩
      · exact h0 t (by simp [h])
    clear hpp hkk HCut
    have HBy : Hid (∀ x ∈ zs, 0 ≤ x ∧ x ≤ 255) := HR.out.byte
    have hmk := make0 (len + 1) (by omega)
    simp only [Int.natCast_add, Int.natCast_one] at hmk
    obtain ⟨o1, ho1⟩ : ∃ o1 : Nat → List Int, ∀ i, o1 i = zs.take i := ⟨fun i => zs.take i, fun _ => rfl⟩
    have HO1 : Hid (∀ i, o1 i = zs.take i) := ho1
    obtain ⟨o2, ho2⟩ : ∃ o2 : Nat → List Int, ∀ i, o2 i = zs.take k ++ [c] ++ (zs.take i).drop k := ⟨fun i => zs.take k ++ [c] ++ (zs.take i).drop k, fun _ => rfl⟩
    have HO2 : Hid (∀ i, o2 i = zs.take k ++ [c] ++ (zs.take i).drop k) := ho2
    clear ho1 ho2
    have hl1 : ∀ i, (o1 i).length ≤ 1048576 := fun i => by rw [HO1.out, List.length_take]; have := hlen.out; omega
    have hl2 : ∀ i, (o2 i).length ≤ 1048577 := fun i => by rw [HO2.out]; simp; have := hlen.out; omega
    have HL : Hid ((∀ i, (o1 i).length ≤ 1048576) ∧ ∀ i, (o2 i).length ≤ 1048577) := ⟨hl1, hl2⟩
    clear hl1 hl2
    go_wp2
    go_loopw [8, 9] (fun vo vi wr => ApRel wc o1 0 k vo vi wr) (fun _ vi _ => k - (intOf vi).toNat)
    case atStart => exact ⟨0, Nat.le_refl _, Nat.zero_le _, rfl, by rw [HO1.out]; exact own0 (len + 1) (by omega) wc _ (Nat.le_refl _), below1 _ _⟩
    case round =>
      obtain ⟨i, -, hi, rfl, HO, hbel⟩ := hrel
      clear hmk
      have hsz := hbel.out.size
      have hol := HL.out.1 i
      by_cases hlt : i < k
      · obtain ⟨b, off, x, ha, hbl, hz, hc, hx0, hx1⟩ := HR.out.at (k := i) (by rw [hlen.out]; omega)
        subst ha
        have c0 : wr.cell? ⟨b, off + i, none⟩ = some (.int .u8 x) := (hbel.out.cell (p := ⟨b, off + i, none⟩) hbl).trans hc
        have HS : Hid (o1 (i + 1) = o1 i ++ [x]) := by show _ = _; rw [HO1.out, HO1.out]; exact snoc_take zs hz
        clear hc hz
        go_wp2_with (at_builtin; refine wpList_app8 wr rfl _ _ rfl wc.heap.size u8 (o1 i).length (o1 i) [x] rfl HO.out rfl (by simp; omega) hsz ?_; intro v' w1 hown1 hb1; have HW1 : Hid (w1.ownsRow wc.heap.size 5 1 v' ((o1 i).length + 1) (B8 (o1 i ++ [x]))) := hown1; clear hown1)
        go_roundw
        case rel => exact ApRel.step x HS.out (by omega) (by omega) (by simp) HW1.out hbel.out hb1
        case measure => simp [intOf]; omega
      · obtain rfl : k = i := by omega
        clear hlt hi
        go_wp2_with (at_builtin; refine wpList_app8 wr rfl _ _ rfl wc.heap.size u8 (o1 k).length (o1 k) [c] rfl HO.out rfl (by simp; omega) hsz ?_; intro v1 w1 hown1 hb1; have HW1 : Hid (w1.ownsRow wc.heap.size 5 1 v1 ((o1 k).length + 1) (B8 (o1 k ++ [c]))) := hown1; clear hown1)
        have HB1 : Hid (Below wc.heap.size wc w1) := hbel.out.trans hb1
        clear hb1 hbel hsz hol HO
        go_loopw [8, 10] (fun vo vi wr => ApRel wc o2 k len vo vi wr) (fun _ vi _ => len - (intOf vi).toNat)
        case atStart =>
          refine ⟨k, Nat.le_refl _, hkl, rfl, ?_, HB1⟩
          have e : o2 k = o1 k ++ [c] := by
            rw [HO2.out, HO1.out, List.drop_eq_nil_of_le (by rw [List.length_take]; omega), List.append_nil]
          show World.ownsRow _ _ _ _ _ _ _
          rw [e, List.length_append]
          exact HW1.out
        case round =>
          clear HW1 HB1 w1
          obtain ⟨i, hlo, hi, rfl, HO, hbel⟩ := hrel
          have hsz := hbel.out.size
          have hol := HL.out.2 i
          by_cases hlt : i < len
          · obtain ⟨b, off, x, ha, hbl, hz, hc, hx0, hx1⟩ := HR.out.at (k := i) (by rw [hlen.out]; omega)
            subst ha
            have c0 : wr.cell? ⟨b, off + i, none⟩ = some (.int .u8 x) := (hbel.out.cell (p := ⟨b, off + i, none⟩) hbl).trans hc
            have HS : Hid (o2 (i + 1) = o2 i ++ [x]) := by show _ = _; rw [HO2.out, HO2.out, snoc_drop zs hz hlo]; simp only [List.append_assoc]
            clear hc hz
            go_wp2_with (at_builtin; refine wpList_app8 wr rfl _ _ rfl wc.heap.size u8 (o2 i).length (o2 i) [x] rfl HO.out rfl (by simp; omega) hsz ?_; intro v' w1 hown1 hb1; have HW1 : Hid (w1.ownsRow wc.heap.size 5 1 v' ((o2 i).length + 1) (B8 (o2 i ++ [x]))) := hown1; clear hown1)
            go_roundw
            case rel => exact ApRel.step x HS.out (by omega) (by omega) (by simp) HW1.out hbel.out hb1
            case measure => simp [intOf]; omega
          · obtain rfl : len = i := by omega
            clear hlt hi hlo
            have HJ : Hid (o2 len = zs.take k ++ [c] ++ zs.drop k) := by
              show _ = _
              have e : zs.take len = zs := List.take_of_length_le (by have := hlen.out; omega)
              rw [HO2.out, e]
            have HJb : Hid (∀ x ∈ o2 len, 0 ≤ x ∧ x ≤ 255) := by
              intro x hx
              rw [HJ.out] at hx
              simp only [List.mem_append, List.mem_singleton] at hx
              rcases hx with (h | h) | h
              · exact HBy.out x (List.mem_of_mem_take h)
              · subst h; exact ⟨hc0, hc1⟩
              · exact HBy.out x (List.mem_of_mem_drop h)
            obtain ⟨aj, cj, hv, hjl, hjc, hjm, hjn, hjr, -⟩ := row8_of_own HO.out HJb.out
            subst hv
            obtain ⟨nj, hnj⟩ : ∃ nj, (o2 len).length = nj := ⟨_, rfl⟩
            have HX1 : Hid (Calls Try.prog 7 #[.slice aj nj cj] wr fun e w' => ∃ v, e = .returned v ∧ w'.ownsRow wr.heap.size 5 1 v (unT (pre ++ [c] :: post)).length (B8 (unT (pre ++ [c] :: post))) ∧ Below wr.heap.size wr w') := by
              rw [← hnj]
              exact zzUnescape_any aj (o2 len) _ _ cj wr rfl hol hjc hjm hjr ⟨HJ.out.trans HP.out.2.2, HV.out.2.2⟩
            rw [hnj]
            clear hnj hjl hjc hjm hjn hjr HO HJ HJb hol
            have HBr : Hid (Below wc.heap.size wc wr) := hbel
            clear hbel
            go_wp2_with fail
            refine HX1.out.mono ?_
            rintro e w1 ⟨v1, rfl, hown1, hb1⟩
            have HW1 : Hid (w1.ownsRow wr.heap.size 5 1 v1 (unT (pre ++ [c] :: post)).length (B8 (unT (pre ++ [c] :: post)))) := hown1
            have HB1 : Hid (Below wc.heap.size wc w1) := HBr.out.trans (hb1.mono hsz)
            have hsz1 := hb1.size
            clear hown1 hb1 HX1
            have HR1 : Hid (Row8 w1 A zs) := HR.out.below HB1.out
            have HX2 : Hid (Calls Try.prog 7 #[.slice A k CAP] w1 fun e w' => ∃ v, e = .returned v ∧ w'.ownsRow w1.heap.size 5 1 v (unT pre).length (B8 (unT pre)) ∧ Below w1.heap.size w1 w') :=
              zzUnescape_any A (zs.take k) pre k CAP w1 (by show _ = _; rw [List.length_take]; have := hlen.out; omega) (by omega) (by omega) HCM.out (HR1.out.take k) ⟨HP.out.1, HV.out.1⟩
            have hhi := run_hi A len CAP k (by omega) HNA.out
            go_wp2_with fail
            refine HX2.out.mono ?_
            rintro e w2 ⟨v2, rfl, hown2, hb2⟩
            have hbp : ∀ x ∈ unT pre, 0 ≤ x ∧ x ≤ 255 := unT_byte pre HV.out.1 (fun x hx => HBy.out x (by rw [← HP.out.1] at hx; exact List.mem_of_mem_take hx))
            have HBp : Hid (∀ x ∈ unT pre, 0 ≤ x ∧ x ≤ 255) := hbp
            clear hbp
            obtain ⟨al, cl, hv2, hll, hlc2, hlm2, -, hlr, -⟩ := row8_of_own hown2 HBp.out
            subst hv2
            have hpl : (unT pre).length ≤ 1048576 := by
              have h1 := unT_len pre HV.out.1 (fun x hx => by have := HBy.out x (by rw [← HP.out.1] at hx; exact List.mem_of_mem_take hx); omega)
              rw [← HP.out.1, List.length_take] at h1
              omega
            have HRl : Hid (Row8 w2 al (unT pre)) := hlr
            have HB2 : Hid (Below w1.heap.size w1 w2) := hb2
            have HBc2 : Hid (Below wc.heap.size wc w2) := HB1.out.trans (hb2.mono HB1.out.size)
            clear hown2 hb2 hll hlc2 hlm2 hlr HX2 hhi
            have HR2 : Hid (Row8 w2 A zs) := HR.out.below HBc2.out
            have HX3 : Hid (Calls Try.prog 7 #[.slice (shiftA A CAP k) (len - k) (CAP - k)] w2 fun e w' => ∃ v, e = .returned v ∧ w'.ownsRow w2.heap.size 5 1 v (unT post).length (B8 (unT post)) ∧ Below w2.heap.size w2 w') :=
              zzUnescape_any (shiftA A CAP k) (zs.drop k) post (len - k) (CAP - k) w2 (by show _ = _; rw [List.length_drop]; have := hlen.out; omega) (by omega) (by omega) (by have := HCM.out; omega) (HR2.out.drop (by have := hlen.out; omega) k (by have := hlen.out; omega)) ⟨HP.out.2.1, HV.out.2.1⟩
            have hlo := run_lo A len CAP k (by omega) (by omega) HNA.out
            go_wp2_with fail
            refine HX3.out.mono ?_
            rintro e w3 ⟨v3, rfl, hown3, hb3⟩
            have hbq : ∀ x ∈ unT post, 0 ≤ x ∧ x ≤ 255 := unT_byte post HV.out.2.1 (fun x hx => HBy.out x (by rw [← HP.out.2.1] at hx; exact List.mem_of_mem_drop hx))
            have HBq : Hid (∀ x ∈ unT post, 0 ≤ x ∧ x ≤ 255) := hbq
            clear hbq
            obtain ⟨ar, cr, hv3, -, -, -, -, hrr, -⟩ := row8_of_own hown3 HBq.out
            subst hv3
            have hql2 : (unT post).length ≤ 1048576 := by
              have h1 := unT_len post HV.out.2.1 (fun x hx => by have := HBy.out x (by rw [← HP.out.2.1] at hx; exact List.mem_of_mem_drop hx); omega)
              rw [← HP.out.2.1, List.length_drop] at h1
              have := hlen.out
              omega
            have HRr : Hid (Row8 w3 ar (unT post)) := hrr
            have HRl3 : Hid (Row8 w3 al (unT pre)) := HRl.out.below hb3
            have HB13 : Hid (Below w1.heap.size w1 w3) := HB2.out.trans (hb3.mono HB2.out.size)
            have HBc3 : Hid (Below wc.heap.size wc w3) := HBc2.out.trans (hb3.mono HBc2.out.size)
            clear hown3 hb3 hrr HX3 hlo HR2 HRl HB2 HBc2 HR1
            obtain ⟨xl, hxl⟩ : ∃ xl, xl = unT pre := ⟨_, rfl⟩
            obtain ⟨xr, hxr⟩ : ∃ xr, xr = unT post := ⟨_, rfl⟩
            have HU : Hid (unT (pre ++ [c] :: post) = xl ++ [c] ++ xr) := by rw [hxl, hxr]; exact unT_put pre post c
            rw [← hxl] at HRl3 hpl HBp
            rw [← hxr] at HRr hql2 HBq
            have e1 : (unT pre).length = xl.length := by rw [hxl]
            have e2 : (unT post).length = xr.length := by rw [hxr]
            rw [e1, e2]
            clear e1 e2 hxl hxr
            obtain ⟨o3, ho3⟩ : ∃ o3 : Nat → List Int, ∀ i, o3 i = xl.take i := ⟨fun i => xl.take i, fun _ => rfl⟩
            have HO3 : Hid (∀ i, o3 i = xl.take i) := ho3
            obtain ⟨o4, ho4⟩ : ∃ o4 : Nat → List Int, ∀ i, o4 i = xl ++ [c] ++ xr.take i := ⟨fun i => xl ++ [c] ++ xr.take i, fun _ => rfl⟩
            have HO4 : Hid (∀ i, o4 i = xl ++ [c] ++ xr.take i) := ho4
            clear ho3 ho4
            have HL3 : Hid ((∀ i, (o3 i).length ≤ 1048576) ∧ ∀ i, (o4 i).length ≤ 2097153) := ⟨fun i => by rw [HO3.out, List.length_take]; omega, fun i => by rw [HO4.out]; simp; omega⟩
            obtain ⟨nl, hnl⟩ : ∃ nl, xl.length = nl := ⟨_, rfl⟩
            obtain ⟨nr, hnr⟩ : ∃ nr, xr.length = nr := ⟨_, rfl⟩
            rw [hnl, hnr]
            rw [hnl] at hpl
            rw [hnr] at hql2
            have HNL : Hid (xl.length = nl ∧ xr.length = nr) := ⟨hnl, hnr⟩
            clear hnl hnr
            go_wp2
            go_loopw [14, 15] (fun vo vi wr => ApRel w3 o3 0 nl vo vi wr) (fun _ vi _ => nl - (intOf vi).toNat)
            case atStart => exact ⟨0, Nat.le_refl _, Nat.zero_le _, rfl, by rw [HO3.out]; exact World.ownsRow_nil _ _ _ _, Below.refl _ _⟩
            case round =>
              obtain ⟨i, -, hi, rfl, HO, hbel⟩ := hrel
              have hsz3 := hbel.out.size
              have hol := HL3.out.1 i
              by_cases hlt : i < nl
              · obtain ⟨b, off, x, ha, hbl, hz, hc, hx0, hx1⟩ := HRl3.out.at (k := i) (by rw [HNL.out.1]; omega)
                subst ha
                have c0 : wr.cell? ⟨b, off + i, none⟩ = some (.int .u8 x) := (hbel.out.cell (p := ⟨b, off + i, none⟩) hbl).trans hc
                have HS : Hid (o3 (i + 1) = o3 i ++ [x]) := by show _ = _; rw [HO3.out, HO3.out]; exact snoc_take xl hz
                clear hc hz
                go_wp2_with (at_builtin; refine wpList_app8 wr rfl _ _ rfl w3.heap.size u14 (o3 i).length (o3 i) [x] rfl HO.out rfl (by simp; omega) hsz3 ?_; intro v' w4 hown4 hb4; have HW4 : Hid (w4.ownsRow w3.heap.size 5 1 v' ((o3 i).length + 1) (B8 (o3 i ++ [x]))) := hown4; clear hown4)
                go_roundw
                case rel => exact ApRel.step x HS.out (by omega) (by omega) (by simp) HW4.out hbel.out hb4
                case measure => simp [intOf]; omega
              · obtain rfl : nl = i := by omega
                clear hlt hi
                go_wp2_with (at_builtin; refine wpList_app8 wr rfl _ _ rfl w3.heap.size u14 (o3 nl).length (o3 nl) [c] rfl HO.out rfl (by simp; omega) hsz3 ?_; intro v4 w4 hown4 hb4; have HW4 : Hid (w4.ownsRow w3.heap.size 5 1 v4 ((o3 nl).length + 1) (B8 (o3 nl ++ [c]))) := hown4; clear hown4)
                have HB4 : Hid (Below w3.heap.size w3 w4) := hbel.out.trans hb4
                clear hb4 hbel hsz3 hol HO
                go_loopw [14, 16] (fun vo vi wr => ApRel w3 o4 0 nr vo vi wr) (fun _ vi _ => nr - (intOf vi).toNat)
                case atStart =>
                  refine ⟨0, Nat.le_refl _, Nat.zero_le _, rfl, ?_, HB4⟩
                  have e : o4 0 = o3 nl ++ [c] := by
                    have e3 : xl.take nl = xl := List.take_of_length_le (by have := HNL.out.1; omega)
                    rw [HO4.out, HO3.out, e3, List.take_zero, List.append_nil]
                  show World.ownsRow _ _ _ _ _ _ _
                  rw [e, List.length_append]
                  exact HW4.out
                case round =>
                  clear HW4 HB4
                  obtain ⟨i, -, hi, rfl, HO, hbel⟩ := hrel
                  have hsz3 := hbel.out.size
                  have hol := HL3.out.2 i
                  by_cases hlt : i < nr
                  · obtain ⟨b, off, x, ha, hbl, hz, hc, hx0, hx1⟩ := HRr.out.at (k := i) (by rw [HNL.out.2]; omega)
                    subst ha
                    have c0 : wr.cell? ⟨b, off + i, none⟩ = some (.int .u8 x) := (hbel.out.cell (p := ⟨b, off + i, none⟩) hbl).trans hc
                    have HS : Hid (o4 (i + 1) = o4 i ++ [x]) := by show _ = _; rw [HO4.out, HO4.out, snoc_take xr hz]; simp only [List.append_assoc]
                    clear hc hz
                    go_wp2_with (at_builtin; refine wpList_app8 wr rfl _ _ rfl w3.heap.size u14 (o4 i).length (o4 i) [x] rfl HO.out rfl (by simp; omega) hsz3 ?_; intro v' w4 hown4 hb4; have HW4 : Hid (w4.ownsRow w3.heap.size 5 1 v' ((o4 i).length + 1) (B8 (o4 i ++ [x]))) := hown4; clear hown4)
                    go_roundw
                    case rel => exact ApRel.step x HS.out (by omega) (by omega) (by simp) HW4.out hbel.out hb4
                    case measure => simp [intOf]; omega
                  · obtain rfl : nr = i := by omega
                    clear hlt hi
                    obtain ⟨X, hX⟩ : ∃ X, X = xl ++ [c] ++ xr := ⟨_, rfl⟩
                    obtain ⟨nn, hnn⟩ : ∃ nn, X.length = nn := ⟨_, rfl⟩
                    have HX : Hid (∀ x ∈ X, 0 ≤ x ∧ x ≤ 255) := by
                      intro x hx
                      rw [hX] at hx
                      simp only [List.mem_append, List.mem_singleton] at hx
                      rcases hx with (h | h) | h
                      · exact HBp.out x h
                      · subst h; exact ⟨hc0, hc1⟩
                      · exact HBq.out x h
                    have e4 : o4 nr = X := by rw [HO4.out, hX, List.take_of_length_le (l := xr) (by have := HNL.out.2; omega)]
                    have hnb : nn ≤ 2097153 := by rw [← hnn, ← e4]; exact hol
                    have hw1 := HW1.out
                    rw [HU.out, ← hX, hnn] at hw1
                    have hw4 := HO.out
                    rw [e4, hnn] at hw4
                    obtain ⟨aw, cw, hv1, -, -, -, -, hrw, -⟩ := row8_of_own hw1 HX.out
                    subst hv1
                    obtain ⟨a4, c4, hv4, -, -, -, -, hr4, -⟩ := row8_of_own hw4 HX.out
                    subst hv4
                    have HRw : Hid (Row8 wr aw X) := (hrw.below HB13.out).below hbel.out
                    have HR4 : Hid (Row8 wr a4 X) := hr4
                    have HXl : Hid (X.length = nn) := hnn
                    have HBc : Hid (Below wc.heap.size wc wr) := HBc3.out.trans (hbel.out.mono HBc3.out.size)
                    clear hw1 hw4 hrw hr4 HW1 HO hnn e4 hX HU HRr HRl3 hbel hsz3 hol HB13 HBc3
                    go_wp2_with fail
                    refine (bytesEqual_true aw a4 X nn cw c4 wr HXl (by omega) HRw.out HR4.out).mono ?_
                    rintro e w5 ⟨rfl, hb5⟩
                    have HBc5 : Hid (Below wc.heap.size wc w5) := HBc.out.trans (hb5.mono HBc.out.size)
                    clear hb5 HRw HR4 HBc HXl
                    have HR5 : Hid (Row8 w5 A zs) := HR.out.below HBc5.out
                    go_wp2_with fail
                    refine (zzUnescape_any A zs ts len CAP w5 hlen (by omega) (by omega) HCM.out HR5.out hts).mono ?_
                    rintro e w6 ⟨v6, rfl, hown6, hb6⟩
                    have hby6 := unT_byte ts hts.out.2 (fun x hx => HBy.out x (by rw [hts.out.1]; exact hx))
                    have hsh := shortens ts hts.out.2 (fun x hx => by have := HBy.out x (by rw [hts.out.1]; exact hx); omega)
                    rw [← hts.out.1, hlen.out] at hsh
                    obtain ⟨a6, c6, hv6, -, -, -, -, -, -⟩ := row8_of_own hown6 hby6
                    subst hv6
                    obtain ⟨n6, hn6⟩ : ∃ n6, (unT ts).length = n6 := ⟨_, rfl⟩
                    rw [hn6]
                    rw [hn6] at hsh
                    have HR6 : Hid (Row8 w6 A zs) := HR5.out.below hb6
                    have HBc6 : Hid (Below wc.heap.size wc w6) := HBc5.out.trans (hb6.mono HBc5.out.size)
                    clear hown6 hby6 hn6 hb6 HR5 HBc5
                    by_cases hm : 92 ∈ zs
                    · have hlt6 : (n6 : Int) < (len : Int) := by have := hsh.2 hm; omega
                      have hd : decide (92 ∈ zs) = true := decide_eq_true hm
                      clear hsh hm
                      go_wp2_with fail
                      refine (hasBackslash_any A zs len CAP w6 hlen (by omega) HR6.out).mono ?_
                      rintro e w6 ⟨rfl, rfl⟩
                      rw [hd]
                      go_wp2
                      go_ret
                      exact ⟨rfl, HB.out.trans (HBc6.out.mono HB.out.size)⟩
                    · have hlt6 : ¬ (n6 : Int) < (len : Int) := fun h => hm (hsh.1 (by omega))
                      have hd : decide (92 ∈ zs) = false := decide_eq_false hm
                      clear hsh hm
                      go_wp2_with fail
                      refine (hasBackslash_any A zs len CAP w6 hlen (by omega) HR6.out).mono ?_
                      rintro e w6 ⟨rfl, rfl⟩
                      rw [hd]
                      go_wp2
                      go_ret
                      exact ⟨ret_bool (by rw [decide_eq_false (by omega)]; rfl), HB.out.trans (HBc6.out.mono HB.out.size)⟩
end Go.Proofs.Qxb6617065a
