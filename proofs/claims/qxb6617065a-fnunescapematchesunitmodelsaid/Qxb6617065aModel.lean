import Derived.Test.Qxb6617065aCut
import Derived.Test.Qxb6617065aByte
import Derived.Deep.DeepAppendRoom
import Derived.Deep.Onto
import Derived.Laws.OwnMore
namespace Go.Proofs.Qxb6617065a
open Go.RowKit
set_option maxHeartbeats 2000000
set_option maxRecDepth 100000
theorem Try.info3 : (Try.prog.info? 3).map (fun i => (i.zero, i.size, i.bytes)) = some (some (.int .i64 0), 1, 8) := by kernel_rfl
theorem make64 (cap : Nat) (h : cap ≤ 1048577) (w : World) : (Instr.makeSlice 29 (.int .i64 0) (.int .i64 (cap : Int))).run Try.prog w = .ok (.slice (some ⟨w.heap.size, 0, none⟩) 0 cap) (w.alloc (.cells (madeCells #[.int .i64 0] cap) 3)) := by
  obtain ⟨i0, hi, hz0, hz1, hz2⟩ := info_parts Try.info3
  have h := run_make (P := Try.prog) w 29 3 i0 (.int .i64 0) Try.underlying29 hi hz0 .i64 .i64 0 (cap : Int) (by omega) (by omega) (by rw [hz2]; omega) (by omega)
  rw [hz1] at h
  simp only [Int.toNat_zero, Int.toNat_natCast, Nat.mul_one] at h
  exact h
/-- numbers, as cells -/
def I64 (xs : List Int) : List Value := xs.map (Value.int .i64)
theorem I64_app (xs ys : List Int) : I64 (xs ++ ys) = I64 xs ++ I64 ys := by simp [I64]
/-- the two rows of the model -/
structure Two (w0 wr : World) (len n1 : Nat) (ks : List Int) (n2 : Nat) (vs : List Int) : Prop where
  below : Below w0.heap.size w0 wr
  size : w0.heap.size + 2 ≤ wr.heap.size
  k : wr.ownsRow w0.heap.size 3 1 (.slice (some ⟨w0.heap.size, 0, none⟩) n1 len) n1 (I64 ks)
  v : wr.ownsRow w0.heap.size 3 1 (.slice (some ⟨w0.heap.size + 1, 0, none⟩) n2 len) n2 (I64 vs)
theorem Two.start (w : World) (len : Nat) (h : len ≤ 1048577) : Two w ((w.alloc (.cells (madeCells #[.int .i64 0] len) 3)).alloc (.cells (madeCells #[.int .i64 0] len) 3)) len 0 [] 0 [] := by
  refine ⟨(below1 w _).alloc (by simp) _, by simp, ?_, ?_⟩
  · exact (World.ownsRow_made w (madeCells #[.int .i64 0] len) len (Nat.le_refl _) (by unfold maxLen; omega) (by simp [size_madeCells])).alloc _
  · have := World.ownsRow_made (e := 3) (size := 1) (base := w.heap.size) (w.alloc (.cells (madeCells #[.int .i64 0] len) 3)) (madeCells #[.int .i64 0] len) len (by simp) (by unfold maxLen; omega) (by simp [size_madeCells])
    simpa [I64] using this
theorem Two.drewN {w0 wr : World} {len n1 n2 : Nat} {ks vs : List Int} (h : Two w0 wr len n1 ks n2 vs) (n : Nat) : Two w0 (wr.drewN n) len n1 ks n2 vs := by
  have hh : (wr.drewN n).heap = wr.heap := by simp
  exact ⟨below_drewN h.below n, by rw [hh]; exact h.size, by unfold World.ownsRow; rw [hh]; exact h.k, by unfold World.ownsRow; rw [hh]; exact h.v⟩
theorem grown_alloc {w w1 : World} {o : Obj} {g : Nat} (h : (w.alloc o).grownBy w1 (some g)) : w.grownBy w1 (some g) := by
  refine ⟨h.os, h.tape, h.output, ?_, ?_⟩
  · have := h.size; simp at this; omega
  · intro k hk hne
    rw [h.block k (by simp; omega) hne]
    exact heap_alloc_old w _ hk
theorem wpList_appK {w0 w : World} {len n1 n2 : Nat} {ks vs : List Int} (T : Two w0 w len n1 ks n2 vs) (c : Int) {ops : Array Oper} {rest : List Oper} {o : Oper} {a : Act} {Q : Exit → Act → World → Prop} (hgd : o.guard = none) (s x : Operand)
    (ho : o.op = .call { callee := .builtin .append, args := #[s, x], argTypes := #[29, 29] }) (hs : a.eval s = .slice (some ⟨w0.heap.size, 0, none⟩) n1 len)
    (hx : a.eval x = .slice (some ⟨w.heap.size, 0, none⟩) 1 1) (hroom : n1 + 1 ≤ len)
    (h : ∀ w', Two w0 w' len (n1 + 1) (ks ++ [c]) n2 vs → wpList Try.prog ops Q rest (a.put o.dst (.slice (some ⟨w0.heap.size, 0, none⟩) (n1 + 1) len)) w') : wpList Try.prog ops Q (o :: rest) a (w.alloc (.cells #[.int .i64 c] 3)) := by
  obtain ⟨i0, hi, hz0, hz1, hz2⟩ := info_parts Try.info3
  refine wpList_append_own_spare _ hgd s x 29 ho w0.heap.size 3 i0 1 Try.underlying29 hi hz1 w0.heap.size n1 len (I64 ks) hs (T.k.alloc _) ⟨w.heap.size, 0, none⟩ 1 1 [.int .i64 c] hx rfl (news_cells w [.int .i64 c] 3) (by simp [Value.oneCell']) hroom ?_
  intro w1 hown hgrow
  have hg := grown_alloc hgrow
  refine h w1 ⟨?_, ?_, ?_, ?_⟩
  · exact T.below.grown hg (by have := T.size; omega) (fun k e => by cases e; omega)
  · have := hg.size; have := T.size; omega
  · rw [I64_app]; exact hown
  · exact T.v.kept hg (.inr (by simp [Value.ownBlock]))
theorem wpList_appV {w0 w : World} {len n1 n2 : Nat} {ks vs : List Int} (T : Two w0 w len n1 ks n2 vs) (c : Int) {ops : Array Oper} {rest : List Oper} {o : Oper} {a : Act} {Q : Exit → Act → World → Prop} (hgd : o.guard = none) (s x : Operand)
    (ho : o.op = .call { callee := .builtin .append, args := #[s, x], argTypes := #[29, 29] }) (hs : a.eval s = .slice (some ⟨w0.heap.size + 1, 0, none⟩) n2 len)
    (hx : a.eval x = .slice (some ⟨w.heap.size, 0, none⟩) 1 1) (hroom : n2 + 1 ≤ len)
    (h : ∀ w', Two w0 w' len n1 ks (n2 + 1) (vs ++ [c]) → wpList Try.prog ops Q rest (a.put o.dst (.slice (some ⟨w0.heap.size + 1, 0, none⟩) (n2 + 1) len)) w') : wpList Try.prog ops Q (o :: rest) a (w.alloc (.cells #[.int .i64 c] 3)) := by
  obtain ⟨i0, hi, hz0, hz1, hz2⟩ := info_parts Try.info3
  refine wpList_append_own_spare _ hgd s x 29 ho w0.heap.size 3 i0 1 Try.underlying29 hi hz1 (w0.heap.size + 1) n2 len (I64 vs) hs (T.v.alloc _) ⟨w.heap.size, 0, none⟩ 1 1 [.int .i64 c] hx rfl (news_cells w [.int .i64 c] 3) (by simp [Value.oneCell']) hroom ?_
  intro w1 hown hgrow
  have hg := grown_alloc hgrow
  refine h w1 ⟨?_, ?_, ?_, ?_⟩
  · exact T.below.grown hg (by have := T.size; omega) (fun k e => by cases e; omega)
  · have := hg.size; have := T.size; omega
  · exact T.k.kept hg (.inr (by simp [Value.ownBlock]))
  · rw [I64_app]; exact hown
/-- the units' kinds and values -/
def UK (us : List (Bool × Int)) : List Int := us.map fun u => if u.1 then 1 else 0
def UV (us : List (Bool × Int)) : List Int := us.map (·.2)
theorem Two.at {w0 wr : World} {len n : Nat} {us : List (Bool × Int)} (h : Two w0 wr len n (UK us) n (UV us)) {j : Nat} {u : Bool × Int} (hj : us[j]? = some u) :
    wr.cell? ⟨w0.heap.size, j, none⟩ = some (.int .i64 (if u.1 then 1 else 0)) ∧ wr.cell? ⟨w0.heap.size + 1, j, none⟩ = some (.int .i64 u.2) := by
  have hl : us.length = n := by have := h.k.1; simp [I64, UK] at this; omega
  have hjl : j < n := by rw [← hl]; exact (List.getElem?_eq_some_iff.1 hj).1
  constructor
  · rw [h.k.cellAt j (by omega)]
    simp [I64, UK, hj]
  · rw [h.v.cellAt j (by omega)]
    simp [I64, UV, hj]
/-- the first loop's relation -/
def M1Rel (w : World) (ts : List (List Int)) (len : Nat) (vk vv vi : Value) (wr : World) : Prop :=
  ∃ (k m : Nat) (pre post : List (List Int)), k ≤ len ∧ m ≤ k ∧ vi = .int .i64 k ∧ vk = .slice (some ⟨w.heap.size, 0, none⟩) m len ∧ vv = .slice (some ⟨w.heap.size + 1, 0, none⟩) m len ∧
    Hid (ts = pre ++ post ∧ k = pre.flatten.length ∧ m = pre.length) ∧ Hid (Two w wr len m (UK (pre.map unit)) m (UV (pre.map unit)))
theorem M1Rel.step {w w1 : World} {ts : List (List Int)} {len k m : Nat} {pre post : List (List Int)} {t : List Int} {k' : Int} (hp : ts = pre ++ t :: post ∧ k = pre.flatten.length ∧ m = pre.length) (hk : k + t.length ≤ len) (hmk : m ≤ k) (ht : 1 ≤ t.length) (hkk : k' = (k + t.length : Nat)) (x y : Int)
    (hx : (if (unit t).1 then (1 : Int) else 0) = x) (hy : (unit t).2 = y) (hT : Two w w1 len (m + 1) (UK (pre.map unit) ++ [x]) (m + 1) (UV (pre.map unit) ++ [y])) :
    M1Rel w ts len (.slice (some ⟨w.heap.size, 0, none⟩) (m + 1) len) (.slice (some ⟨w.heap.size + 1, 0, none⟩) (m + 1) len) (.int .i64 k') w1 := by
  subst hkk hx hy
  obtain ⟨h1, h2, h3⟩ := hp
  refine ⟨k + t.length, m + 1, pre ++ [t], post, hk, by omega, rfl, rfl, rfl, ⟨by rw [h1]; simp, by rw [h2]; simp, by rw [h3]; simp⟩, ?_⟩
  show Two _ _ _ _ _ _ _
  rw [List.map_append]
  unfold UK UV at *
  rw [List.map_append, List.map_append]
  exact hT
/-- the second loop's relation -/
def M2Rel (w : World) (us : List (Bool × Int)) (m : Nat) (vo vj : Value) (wr : World) : Prop :=
  ∃ (j : Nat) (o : List Int) (pre post : List (Bool × Int)), j ≤ m ∧ vj = .int .i64 j ∧ Hid (wr.ownsRow w.heap.size 5 1 vo o.length (B8 o)) ∧ Hid (Below w.heap.size w wr) ∧ Hid (us = pre ++ post ∧ j = pre.length ∧ o ++ unM post = unM us)
theorem M2Rel.step {w wr w1 : World} {us : List (Bool × Int)} {m j : Nat} {o : List Int} {pre q post : List (Bool × Int)} (h : us = pre ++ (q ++ post) ∧ j = pre.length ∧ o ++ unM (q ++ post) = unM us) (x : List Int) (hx : unM (q ++ post) = x ++ unM post) (hj : j + q.length ≤ m)
    {v : Value} {j' : Int} (hjj : j' = (j + q.length : Nat)) (hown : w1.ownsRow w.heap.size 5 1 v (o.length + x.length) (B8 (o ++ x))) (hb : Below w.heap.size w wr) (hb1 : Below w.heap.size wr w1) : M2Rel w us m v (.int .i64 j') w1 := by
  subst hjj
  obtain ⟨h1, h2, h3⟩ := h
  exact ⟨j + q.length, o ++ x, pre ++ q, post, hj, rfl, by rw [List.length_append]; exact hown, hb.trans hb1, by rw [h1]; simp, by rw [h2]; simp, by rw [← h3, hx, List.append_assoc]⟩
theorem model_any (a : Option Addr) (zs : List Int) (ts : List (List Int)) (len cap : Nat) (w : World) (hlen : Hid (zs.length = len)) (hl : len ≤ 1048576) (h1 : Row8 w a zs) (hts : Hid (zs = ts.flatten ∧ ∀ t ∈ ts, Valid t)) :
    Calls Try.prog 8 #[.slice a len cap] w fun e w' => ∃ v, e = .returned v ∧ w'.ownsRow w.heap.size 5 1 v (unT ts).length (B8 (unT ts)) ∧ Below w.heap.size w w' := by
  have H1 : Hid (Row8 w a zs) := h1
  clear h1
  have hmk := make64 len (by omega)
  go_enter Try.func8, Try.ntmps8
  go_wp2
  go_loopw [4, 5, 6] (fun vk vv vi wr => M1Rel w ts len vk vv vi wr) (fun _ _ vi _ => len - (intOf vi).toNat)
  case atStart => exact ⟨0, 0, [], ts, Nat.zero_le _, Nat.le_refl _, rfl, rfl, rfl, ⟨rfl, rfl, rfl⟩, Two.start w len (by omega)⟩
  case round =>
    obtain ⟨k, m, pre, post, hk, hmle, rfl, rfl, rfl, HP, HT⟩ := hrel
    clear hmk
    have hkp : k + post.flatten.length = len := by
      have h2 := hlen.out
      rw [hts.out.1, HP.out.1, List.flatten_append, List.length_append, ← HP.out.2.1] at h2
      exact h2
    cases post with
    | nil =>
      have hk' : k = len := by simpa using hkp
      subst hk'
      clear hkp hk
      obtain ⟨W, rfl⟩ : ∃ W : World, W = wr := ⟨_, rfl⟩
      obtain ⟨us, hus⟩ : ∃ us, us = ts.map unit := ⟨_, rfl⟩
      have HTu : Hid (Two w W k m (UK us) m (UV us)) := by
        have := HP.out.1
        rw [List.append_nil] at this
        rw [hus, this]
        exact HT.out
      have hmm : Hid (us.length = m) := by
        have h2 := HP.out.1
        rw [List.append_nil] at h2
        have h3 := HP.out.2.2
        show us.length = m
        rw [hus, List.length_map, h2, h3]
      have HBy : Hid (∀ u ∈ us, 0 ≤ u.2 ∧ u.2 < 65536 ∧ (u.1 = false → u.2 ≤ 255)) := by
        intro u hu
        rw [hus] at hu
        obtain ⟨t, ht, rfl⟩ := List.mem_map.1 hu
        exact (hts.out.2 t ht).unitB (fun c hc => H1.out.byte c (by rw [hts.out.1]; exact List.mem_flatten.2 ⟨t, ht, hc⟩))
      have HLn : Hid ((unM us).length ≤ k) := by
        have := unT_len ts hts.out.2 (fun c hc => by have := H1.out.byte c (by rw [hts.out.1]; exact hc); omega)
        rw [← hts.out.1, hlen.out] at this
        rw [hus]
        exact this
      have HE : Hid (unT ts = unM us) := by rw [hus]; rfl
      clear hus HT HP H1 hlen hts
      have hmk := make0 k (by omega)
      go_wp2
      go_loopw [10, 11] (fun vo vj w' => M2Rel W us m vo vj w') (fun _ vj _ => m - (intOf vj).toNat)
      case atStart => exact ⟨0, [], [], us, Nat.zero_le _, rfl, own0 k (by omega) W _ (Nat.le_refl _), below1 _ _, rfl, rfl, rfl⟩
      case round =>
        obtain ⟨j, o, prv, post, hj, rfl, HO, hbel, HR⟩ := hrel
        clear hmk
        have hob : o.length ≤ k := by
          have h1 := HLn.out
          rw [← HR.out.2.2, List.length_append] at h1
          omega
        have hjp : j + post.length = m := by
          have h2 := hmm.out
          rw [HR.out.1, List.length_append, ← HR.out.2.1] at h2
          exact h2
        have hBw := hbel.out.size
        have HC2 : Hid (∀ i u, post[i]? = some u → wr.cell? ⟨w.heap.size, j + i, none⟩ = some (.int .i64 (if u.1 then 1 else 0)) ∧ wr.cell? ⟨w.heap.size + 1, j + i, none⟩ = some (.int .i64 u.2) ∧ 0 ≤ u.2 ∧ u.2 < 65536 ∧ (u.1 = false → u.2 ≤ 255)) := by
          intro i u hi
          have hz : us[j + i]? = some u := by
            rw [HR.out.1, HR.out.2.1, List.getElem?_append_right (by omega), Nat.add_sub_cancel_left]
            exact hi
          have hc := HTu.out.at hz
          have hs := HTu.out.size
          exact ⟨(hbel.out.cell (p := ⟨w.heap.size, j + i, none⟩) (show w.heap.size < _ by omega)).trans hc.1, (hbel.out.cell (p := ⟨w.heap.size + 1, j + i, none⟩) (show w.heap.size + 1 < _ by omega)).trans hc.2, HBy.out u (List.mem_of_getElem? hz)⟩
        cases post with
        | nil =>
          have hj' : j = m := by simpa using hjp
          subst hj'
          have HA : Hid (o = unT ts) := by
            have := HR.out.2.2
            have e : unM [] = [] := rfl
            rw [e, List.append_nil] at this
            rw [HE.out]
            exact this
          have hlt : ¬ ((j : Int) < (j : Int)) := by omega
          go_wp2
          go_ret
          exact ⟨_, rfl, by rw [← HA.out]; exact HO.out.mono (by have := HTu.out.size; omega), HTu.out.below.trans (hbel.out.mono HTu.out.below.size)⟩
        | cons u post =>
          obtain ⟨bb, v⟩ := u
          have hjl : j < m := by simp at hjp; omega
          have hjl' : (j : Int) < (m : Int) := by omega
          obtain ⟨ck, cv, hv0, hv1, hv2⟩ := HC2.out 0 (bb, v) rfl
          have hjq : j + 1 + post.length = m := by simp at hjp; omega
          clear hjp
          simp only [Nat.add_zero] at ck cv hv0 hv1 hv2
          cases bb with
          | false =>
            have hv3 := hv2 rfl
            simp only [Bool.false_eq_true, if_false] at ck
            clear hv2
            have HS : Hid (unM ([(false, v)] ++ post) = [v] ++ unM post) := unM_plain v post
            go_wp2_with (at_builtin; refine wpList_app8 wr rfl _ _ rfl W.heap.size u10 o.length o [v] rfl HO.out rfl (by simp; omega) hBw ?_; intro v' w4 hown4 hb4; have HO4 : Hid (w4.ownsRow W.heap.size 5 1 v' (o.length + 1) (B8 (o ++ [v]))) := hown4; clear hown4)
            go_roundw
            case rel => exact M2Rel.step (q := [(false, v)]) HR.out [v] HS.out (by simp; omega) (by simp) HO4.out hbel.out hb4
            case measure => simp [intOf]; omega
          | true =>
            simp only [if_true] at ck
            clear hv2
            by_cases hlow : v < 55296
            · have HS : Hid (unM ([(true, v)] ++ post) = utf8 v ++ unM post) := by
                have := unM_lone v post (paired_no v post (fun _ _ _ h => by unfold isHi at h; omega))
                rw [show fix v = v by unfold fix; rw [if_neg (by omega)]] at this
                exact this
              clear HC2
              have HX : Hid (Calls Try.prog 16 #[u10, .int .i64 v] wr fun e w' => ∃ v', e = .returned v' ∧ w'.ownsRow W.heap.size 5 1 v' (o.length + (utf8 v).length) (B8 (o ++ utf8 v)) ∧ Below W.heap.size wr w') := appendUTF8_any W.heap.size u10 o.length o v wr HO.out hBw (by omega) (by omega) (by omega)
              clear HO
              go_wp2_with (go_at_call 16; refine HX.out.mono ?_; rintro e w4 ⟨v4, rfl, hown4, hb4⟩; have HO4 : Hid (w4.ownsRow W.heap.size 5 1 v4 (o.length + (utf8 v).length) (B8 (o ++ utf8 v))) := hown4; have HB4 : Hid (Below W.heap.size wr w4) := hb4; clear hown4 hb4)
              go_roundw
              case rel => exact M2Rel.step (q := [(true, v)]) HR.out (utf8 v) HS.out (by simp; omega) (by simp) HO4.out hbel.out HB4.out
              case measure => simp [intOf]; omega
            by_cases hhigh : 57344 ≤ v
            · have HS : Hid (unM ([(true, v)] ++ post) = utf8 v ++ unM post) := by
                have := unM_lone v post (paired_no v post (fun _ _ _ h => by unfold isHi at h; omega))
                rw [show fix v = v by unfold fix; rw [if_neg (by omega)]] at this
                exact this
              clear HC2
              have HX : Hid (Calls Try.prog 16 #[u10, .int .i64 v] wr fun e w' => ∃ v', e = .returned v' ∧ w'.ownsRow W.heap.size 5 1 v' (o.length + (utf8 v).length) (B8 (o ++ utf8 v)) ∧ Below W.heap.size wr w') := appendUTF8_any W.heap.size u10 o.length o v wr HO.out hBw (by omega) (by omega) (by omega)
              clear HO
              go_wp2_with (go_at_call 16; refine HX.out.mono ?_; rintro e w4 ⟨v4, rfl, hown4, hb4⟩; have HO4 : Hid (w4.ownsRow W.heap.size 5 1 v4 (o.length + (utf8 v).length) (B8 (o ++ utf8 v))) := hown4; have HB4 : Hid (Below W.heap.size wr w4) := hb4; clear hown4 hb4)
              go_roundw
              case rel => exact M2Rel.step (q := [(true, v)]) HR.out (utf8 v) HS.out (by simp; omega) (by simp) HO4.out hbel.out HB4.out
              case measure => simp [intOf]; omega
            have hfx : fix v = 65533 := by unfold fix; rw [if_pos ⟨by omega, by omega⟩]
            by_cases hlo : 56320 ≤ v
            · have HS : Hid (unM ([(true, v)] ++ post) = utf8 65533 ++ unM post) := by
                have := unM_lone v post (paired_no v post (fun _ _ _ h => by unfold isHi at h; omega))
                rw [hfx] at this
                exact this
              clear HC2 hfx
              have HX : Hid (Calls Try.prog 16 #[u10, .int .i64 65533] wr fun e w' => ∃ v', e = .returned v' ∧ w'.ownsRow W.heap.size 5 1 v' (o.length + (utf8 65533).length) (B8 (o ++ utf8 65533)) ∧ Below W.heap.size wr w') := appendUTF8_any W.heap.size u10 o.length o 65533 wr HO.out hBw (by omega) (by omega) (by omega)
              clear HO
              go_wp2_with (go_at_call 16; refine HX.out.mono ?_; rintro e w4 ⟨v4, rfl, hown4, hb4⟩; have HO4 : Hid (w4.ownsRow W.heap.size 5 1 v4 (o.length + (utf8 65533).length) (B8 (o ++ utf8 65533))) := hown4; have HB4 : Hid (Below W.heap.size wr w4) := hb4; clear hown4 hb4)
              go_roundw
              case rel => exact M2Rel.step (q := [(true, v)]) HR.out (utf8 65533) HS.out (by simp; omega) (by simp) HO4.out hbel.out HB4.out
              case measure => simp [intOf]; omega
            cases post with
            | nil =>
              have HS : Hid (unM ([(true, v)] ++ []) = utf8 65533 ++ unM []) := by
                have := unM_lone v [] (paired_no v [] (fun _ _ h => by cases h))
                rw [hfx] at this
                exact this
              have hj1 : ¬ ((j : Int) + 1 < (m : Int)) := by simp at hjq; omega
              clear HC2 hfx
              have HX : Hid (Calls Try.prog 16 #[u10, .int .i64 65533] wr fun e w' => ∃ v', e = .returned v' ∧ w'.ownsRow W.heap.size 5 1 v' (o.length + (utf8 65533).length) (B8 (o ++ utf8 65533)) ∧ Below W.heap.size wr w') := appendUTF8_any W.heap.size u10 o.length o 65533 wr HO.out hBw (by omega) (by omega) (by omega)
              clear HO
              go_wp2_with (go_at_call 16; refine HX.out.mono ?_; rintro e w4 ⟨v4, rfl, hown4, hb4⟩; have HO4 : Hid (w4.ownsRow W.heap.size 5 1 v4 (o.length + (utf8 65533).length) (B8 (o ++ utf8 65533))) := hown4; have HB4 : Hid (Below W.heap.size wr w4) := hb4; clear hown4 hb4)
              go_roundw
              case rel => exact M2Rel.step (q := [(true, v)]) HR.out (utf8 65533) HS.out (by simp; omega) (by simp) HO4.out hbel.out HB4.out
              case measure => simp [intOf]; omega
            | cons u2 post =>
              obtain ⟨b2, v2⟩ := u2
              have hj1 : (j : Int) + 1 < (m : Int) := by simp at hjq; omega
              obtain ⟨ck2, cv2, hw0, hw1, -⟩ := HC2.out 1 (b2, v2) rfl
              simp only at cv2 hw0 hw1
              simp only [List.length_cons] at hjq
              cases b2 with
              | false =>
                have HS : Hid (unM ([(true, v)] ++ (false, v2) :: post) = utf8 65533 ++ unM ((false, v2) :: post)) := by
                  have := unM_lone v ((false, v2) :: post) (paired_no v _ (fun _ _ h => by cases h))
                  rw [hfx] at this
                  exact this
                simp only [Bool.false_eq_true, if_false] at ck2
                clear HC2 hfx
                have HX : Hid (Calls Try.prog 16 #[u10, .int .i64 65533] wr fun e w' => ∃ v', e = .returned v' ∧ w'.ownsRow W.heap.size 5 1 v' (o.length + (utf8 65533).length) (B8 (o ++ utf8 65533)) ∧ Below W.heap.size wr w') := appendUTF8_any W.heap.size u10 o.length o 65533 wr HO.out hBw (by omega) (by omega) (by omega)
                clear HO
                go_wp2_with (go_at_call 16; refine HX.out.mono ?_; rintro e w4 ⟨v4, rfl, hown4, hb4⟩; have HO4 : Hid (w4.ownsRow W.heap.size 5 1 v4 (o.length + (utf8 65533).length) (B8 (o ++ utf8 65533))) := hown4; have HB4 : Hid (Below W.heap.size wr w4) := hb4; clear hown4 hb4)
                go_roundw
                case rel => exact M2Rel.step (q := [(true, v)]) HR.out (utf8 65533) HS.out (by simp; omega) (by simp) HO4.out hbel.out HB4.out
                case measure => simp [intOf]; omega
              | true =>
                simp only [if_true] at ck2
                by_cases hlo2 : v2 < 56320
                · have HS : Hid (unM ([(true, v)] ++ (true, v2) :: post) = utf8 65533 ++ unM ((true, v2) :: post)) := by
                    have := unM_lone v ((true, v2) :: post) (paired_no v _ (fun v3 us3 h h2 => by cases h; unfold isLo at h2; omega))
                    rw [hfx] at this
                    exact this
                  clear HC2 hfx
                  have HX : Hid (Calls Try.prog 16 #[u10, .int .i64 65533] wr fun e w' => ∃ v', e = .returned v' ∧ w'.ownsRow W.heap.size 5 1 v' (o.length + (utf8 65533).length) (B8 (o ++ utf8 65533)) ∧ Below W.heap.size wr w') := appendUTF8_any W.heap.size u10 o.length o 65533 wr HO.out hBw (by omega) (by omega) (by omega)
                  clear HO
                  go_wp2_with (go_at_call 16; refine HX.out.mono ?_; rintro e w4 ⟨v4, rfl, hown4, hb4⟩; have HO4 : Hid (w4.ownsRow W.heap.size 5 1 v4 (o.length + (utf8 65533).length) (B8 (o ++ utf8 65533))) := hown4; have HB4 : Hid (Below W.heap.size wr w4) := hb4; clear hown4 hb4)
                  go_roundw
                  case rel => exact M2Rel.step (q := [(true, v)]) HR.out (utf8 65533) HS.out (by simp; omega) (by simp) HO4.out hbel.out HB4.out
                  case measure => simp [intOf]; omega
                by_cases hhi2 : 57344 ≤ v2
                · have HS : Hid (unM ([(true, v)] ++ (true, v2) :: post) = utf8 65533 ++ unM ((true, v2) :: post)) := by
                    have := unM_lone v ((true, v2) :: post) (paired_no v _ (fun v3 us3 h h2 => by cases h; unfold isLo at h2; omega))
                    rw [hfx] at this
                    exact this
                  clear HC2 hfx
                  have HX : Hid (Calls Try.prog 16 #[u10, .int .i64 65533] wr fun e w' => ∃ v', e = .returned v' ∧ w'.ownsRow W.heap.size 5 1 v' (o.length + (utf8 65533).length) (B8 (o ++ utf8 65533)) ∧ Below W.heap.size wr w') := appendUTF8_any W.heap.size u10 o.length o 65533 wr HO.out hBw (by omega) (by omega) (by omega)
                  clear HO
                  go_wp2_with (go_at_call 16; refine HX.out.mono ?_; rintro e w4 ⟨v4, rfl, hown4, hb4⟩; have HO4 : Hid (w4.ownsRow W.heap.size 5 1 v4 (o.length + (utf8 65533).length) (B8 (o ++ utf8 65533))) := hown4; have HB4 : Hid (Below W.heap.size wr w4) := hb4; clear hown4 hb4)
                  go_roundw
                  case rel => exact M2Rel.step (q := [(true, v)]) HR.out (utf8 65533) HS.out (by simp; omega) (by simp) HO4.out hbel.out HB4.out
                  case measure => simp [intOf]; omega
                clear HC2 hfx
                have HS : Hid (unM ([(true, v), (true, v2)] ++ post) = utf8 (pairV v v2) ++ unM post) := unM_pair v v2 post ⟨by omega, by omega⟩ ⟨by omega, by omega⟩
                obtain ⟨R, hR⟩ : ∃ R, R = pairV v v2 := ⟨_, rfl⟩
                have hR2 : 65536 + (v - 55296) * 1024 + (v2 - 56320) = R := by rw [hR]; rfl
                rw [← hR] at HS
                clear hR
                have HX : Hid (Calls Try.prog 16 #[u10, .int .i64 R] wr fun e w' => ∃ v', e = .returned v' ∧ w'.ownsRow W.heap.size 5 1 v' (o.length + (utf8 R).length) (B8 (o ++ utf8 R)) ∧ Below W.heap.size wr w') := appendUTF8_any W.heap.size u10 o.length o R wr HO.out hBw (by omega) (by omega) (by omega)
                clear HO
                go_wp2_with (go_at_call 16; (try rw [hR2]); refine HX.out.mono ?_; rintro e w4 ⟨v4, rfl, hown4, hb4⟩; have HO4 : Hid (w4.ownsRow W.heap.size 5 1 v4 (o.length + (utf8 R).length) (B8 (o ++ utf8 R))) := hown4; have HB4 : Hid (Below W.heap.size wr w4) := hb4; clear hown4 hb4)
                go_roundw
                case rel => exact M2Rel.step (q := [(true, v), (true, v2)]) HR.out (utf8 R) HS.out (by simp; omega) (by simp) HO4.out hbel.out HB4.out
                case measure => simp [intOf]; omega
    | cons t post =>
      have hvt : Valid t := hts.out.2 t (by rw [HP.out.1]; simp)
      have htl : k + t.length ≤ len := by simp at hkp; omega
      have ht1 : 1 ≤ t.length := by rcases hvt with ⟨_, rfl, _⟩ | ⟨_, rfl, _⟩ | ⟨_, _, _, _, rfl, _⟩ <;> simp
      obtain ⟨b, off, _, ha, hbl, -⟩ := H1.out.at (k := k) (by rw [hlen.out]; omega)
      subst ha
      have HC : Hid (∀ j c, t[j]? = some c → wr.cell? ⟨b, off + (k + j), none⟩ = some (.int .u8 c) ∧ 0 ≤ c ∧ c ≤ 255) := by
        intro j c hj
        have hz := tok_at (hts.out.1.trans (congrArg List.flatten HP.out.1)) hj
        rw [← HP.out.2.1] at hz
        rcases H1.out with e | ⟨b', off', ha, -, hc⟩
        · rw [e] at hz; simp at hz
        · simp at ha
          obtain ⟨rfl, rfl⟩ := ha
          exact ⟨(HT.out.below.cell (p := ⟨b, off + (k + j), none⟩) hbl).trans (hc _ _ hz).1, (hc _ _ hz).2⟩
      clear H1 hkp
      have hlt : k < len := by omega
      have hlt' : (k : Int) < (len : Int) := by omega
      rcases hvt with ⟨c, rfl, h92⟩ | ⟨e, rfl, hs⟩ | ⟨x0, x1, x2, x3, rfl, g0, g1, g2, g3⟩
      · have c0 : wr.cell? ⟨b, off + k, none⟩ = some (.int .u8 c) := (HC.out 0 c rfl).1
        obtain ⟨hc0, hc1⟩ := (HC.out 0 c rfl).2
        have hb' : (c != 92) = true := by simp [h92]
        go_wp2_with (first | (at_builtin; refine wpList_appK HT.out 0 rfl _ _ rfl rfl rfl (by omega) ?_; intro w1 hT1; have HT1 : Hid (Two w w1 len (m + 1) _ m _) := hT1; clear hT1 HT) | (at_builtin; refine wpList_appV HT1.out c rfl _ _ rfl rfl rfl (by omega) ?_; intro w2 hT2; have HT2 : Hid (Two w w2 len (m + 1) _ (m + 1) _) := hT2; clear hT2 HT1))
        go_roundw
        case rel => exact M1Rel.step HP.out htl hmle ht1 (by simp) 0 c rfl rfl HT2.out
        case measure => simp [intOf]; omega
      · have c0 : wr.cell? ⟨b, off + k, none⟩ = some (.int .u8 92) := (HC.out 0 92 rfl).1
        have c1 : wr.cell? ⟨b, off + (k + 1), none⟩ = some (.int .u8 e) := (HC.out 1 e rfl).1
        obtain ⟨he0, he1⟩ := (HC.out 1 e rfl).2
        have h117 : (e == 117) = false := beq_eq_false_iff_ne.2 (by rcases hs with rfl | rfl | rfl | rfl | rfl | rfl | rfl | rfl <;> omega)
        simp only [List.length_cons, List.length_nil] at htl
        obtain ⟨E, hE⟩ : ∃ E, simpE e = E := ⟨_, rfl⟩
        have hE0 : 0 ≤ E ∧ E ≤ 255 := by rw [← hE]; unfold simpE; repeat' split <;> omega
        have HX : Hid (∀ w, Calls Try.prog 15 #[.int .u8 e] w fun e w' => e = .returned (.int .u8 E) ∧ w' = w) := fun w => by rw [← hE]; exact simpleEscape_any e w he0 he1
        have HU : Hid ((unit [92, e]).2 = E) := hE
        clear hE
        go_wp2_with (first | (at_builtin; refine wpList_appK HT.out 0 rfl _ _ rfl rfl rfl (by omega) ?_; intro w1 hT1; have HT1 : Hid (Two w w1 len (m + 1) _ m _) := hT1; clear hT1 HT) | (at_builtin; refine wpList_appV HT1.out E rfl _ _ rfl rfl rfl (by omega) ?_; intro w2 hT2; have HT2 : Hid (Two w w2 len (m + 1) _ (m + 1) _) := hT2; clear hT2 HT1) | (go_at_call 15; refine (HX.out _).mono ?_; rintro e w1 ⟨rfl, rfl⟩))
        go_roundw
        case rel => exact M1Rel.step HP.out htl hmle ht1 (by simp) 0 E rfl HU.out HT2.out
        case measure => simp [intOf]; omega
      · have c0 : wr.cell? ⟨b, off + k, none⟩ = some (.int .u8 92) := (HC.out 0 92 rfl).1
        have c1 : wr.cell? ⟨b, off + (k + 1), none⟩ = some (.int .u8 117) := (HC.out 1 117 rfl).1
        have c2 : wr.cell? ⟨b, off + (k + 2), none⟩ = some (.int .u8 x0) := (HC.out 2 x0 rfl).1
        have c3 : wr.cell? ⟨b, off + (k + 3), none⟩ = some (.int .u8 x1) := (HC.out 3 x1 rfl).1
        have c4 : wr.cell? ⟨b, off + (k + 4), none⟩ = some (.int .u8 x2) := (HC.out 4 x2 rfl).1
        have c5 : wr.cell? ⟨b, off + (k + 5), none⟩ = some (.int .u8 x3) := (HC.out 5 x3 rfl).1
        simp only [List.length_cons, List.length_nil] at htl
        have q0 := (HC.out 2 x0 rfl).2
        have q1 := (HC.out 3 x1 rfl).2
        have q2 := (HC.out 4 x2 rfl).2
        have q3 := (HC.out 5 x3 rfl).2
        have HH : Hid (∀ w, Calls Try.prog 13 #[.int .u8 x0] w fun e w' => e = .returned (.int .i64 (hexV x0)) ∧ w' = w) := fun w => hexValue_any x0 w q0.1 q0.2
        have HH1 : Hid (∀ w, Calls Try.prog 13 #[.int .u8 x1] w fun e w' => e = .returned (.int .i64 (hexV x1)) ∧ w' = w) := fun w => hexValue_any x1 w q1.1 q1.2
        have HH2 : Hid (∀ w, Calls Try.prog 13 #[.int .u8 x2] w fun e w' => e = .returned (.int .i64 (hexV x2)) ∧ w' = w) := fun w => hexValue_any x2 w q2.1 q2.2
        have HH3 : Hid (∀ w, Calls Try.prog 13 #[.int .u8 x3] w fun e w' => e = .returned (.int .i64 (hexV x3)) ∧ w' = w) := fun w => hexValue_any x3 w q3.1 q3.2
        have HU : Hid ((unit [92, 117, x0, x1, x2, x3]).2 = hexV x0 * 4096 + hexV x1 * 256 + hexV x2 * 16 + hexV x3) := rfl
        have l0 := (hexV_le x0).1
        have l1 := (hexV_le x1).1
        have l2 := (hexV_le x2).1
        have l3 := (hexV_le x3).1
        generalize hexV x0 = y0 at *
        generalize hexV x1 = y1 at *
        generalize hexV x2 = y2 at *
        generalize hexV x3 = y3 at *
        go_wp2
        go_quiet (first | (go_at_call_of 13 (Value.int IntKind.u8 x0); exact Calls.quiet_of_same (HH.out _)) | (go_at_call_of 13 (Value.int IntKind.u8 x1); exact Calls.quiet_of_same (HH1.out _)) | (go_at_call_of 13 (Value.int IntKind.u8 x2); exact Calls.quiet_of_same (HH2.out _)) | (go_at_call_of 13 (Value.int IntKind.u8 x3); exact Calls.quiet_of_same (HH3.out _)))
        have HTq : Hid (Two w (wr.drewN nq) len m (UK (pre.map unit)) m (UV (pre.map unit))) := HT.out.drewN nq
        clear HT
        go_wp2_with (first | (at_builtin; refine wpList_appK HTq.out 1 rfl _ _ rfl rfl rfl (by omega) ?_; intro w1 hT1; have HT1 : Hid (Two w w1 len (m + 1) _ m _) := hT1; clear hT1 HTq) | (at_builtin; refine wpList_appV HT1.out (y0 * 4096 + y1 * 256 + y2 * 16 + y3) rfl _ _ rfl rfl rfl (by omega) ?_; intro w2 hT2; have HT2 : Hid (Two w w2 len (m + 1) _ (m + 1) _) := hT2; clear hT2 HT1))
        go_roundw
        case rel => exact M1Rel.step HP.out htl hmle ht1 (by simp) 1 _ rfl HU.out HT2.out
        case measure => simp [intOf]; omega
end Go.Proofs.Qxb6617065a
