import Derived.Test.Qxb6617065aTok
import Derived.Laws.MakeOwn
import Derived.Deep.RegionWith
namespace Go.Proofs.Qxb6617065a
open Go.RowKit
set_option maxHeartbeats 2000000
set_option maxRecDepth 100000
theorem make0 (cap : Nat) (h : cap ≤ 140737488355328) (w : World) : (Instr.makeSlice 22 (.int .i64 0) (.int .i64 (cap : Int))).run Try.prog w = .ok (.slice (some ⟨w.heap.size, 0, none⟩) 0 cap) (w.alloc (.cells (madeCells #[.int .u8 0] cap) 5)) := by
  obtain ⟨i0, hi, hz0, hz1, hz2⟩ := info_parts Try.info5
  have h := run_make (P := Try.prog) w 22 5 i0 (.int .u8 0) Try.underlying22 hi hz0 .i64 .i64 0 (cap : Int) (by omega) (by omega) (by rw [hz2]; omega) (by omega)
  rw [hz1] at h
  simp only [Int.toNat_zero, Int.toNat_natCast, Nat.mul_one] at h
  exact h
theorem own0 (cap : Nat) (h : cap ≤ 140737488355328) (w : World) (B : Nat) (hB : B ≤ w.heap.size) : (w.alloc (.cells (madeCells #[.int .u8 0] cap) 5)).ownsRow B 5 1 (.slice (some ⟨w.heap.size, 0, none⟩) 0 cap) 0 (B8 []) :=
  World.ownsRow_made w _ cap hB (by unfold maxLen; omega) (by simp [size_madeCells])
/-- what remains of the tokens behind place k, the answer so far being o -/
def Rest (ts : List (List Int)) (k : Nat) (o : List Int) (post : List (List Int)) : Prop := ∃ pre, ts = pre ++ post ∧ k = pre.flatten.length ∧ o ++ unT post = unT ts
theorem Rest.one {ts : List (List Int)} {k : Nat} {o : List Int} {t : List Int} {post : List (List Int)} (h : Rest ts k o (t :: post)) (x : List Int) (hx : unT (t :: post) = x ++ unT post) : Rest ts (k + t.length) (o ++ x) post := by
  obtain ⟨pre, e, hk, ho⟩ := h
  refine ⟨pre ++ [t], by rw [e]; simp, by rw [hk]; simp, ?_⟩
  rw [← ho, hx, List.append_assoc]
theorem Rest.two {ts : List (List Int)} {k : Nat} {o : List Int} {t t2 : List Int} {post : List (List Int)} (h : Rest ts k o (t :: t2 :: post)) (x : List Int) (hx : unT (t :: t2 :: post) = x ++ unT post) : Rest ts (k + t.length + t2.length) (o ++ x) post := by
  obtain ⟨pre, e, hk, ho⟩ := h
  refine ⟨pre ++ [t, t2], by rw [e]; simp, by rw [hk]; simp; omega, ?_⟩
  rw [← ho, hx, List.append_assoc]
theorem Rest.at {zs : List Int} {ts : List (List Int)} {k : Nat} {o : List Int} {post : List (List Int)} (h : Rest ts k o post) (hz : zs = ts.flatten) {j : Nat} {c : Int} (hj : post.flatten[j]? = some c) : zs[k + j]? = some c := by
  obtain ⟨pre, e, hk, -⟩ := h
  rw [hz, e, hk, List.flatten_append, List.getElem?_append_right (by omega), Nat.add_sub_cancel_left, hj]
theorem Rest.len {zs : List Int} {ts : List (List Int)} {k : Nat} {o : List Int} {post : List (List Int)} (h : Rest ts k o post) (hz : zs = ts.flatten) : k + post.flatten.length = zs.length := by
  obtain ⟨pre, e, hk, -⟩ := h
  rw [hz, e, hk]
  simp
theorem unT_len (ts : List (List Int)) (hv : ∀ t ∈ ts, Valid t) (hb : ∀ c ∈ ts.flatten, c < 256) : (unT ts).length ≤ ts.flatten.length := by
  by_cases h : 92 ∈ ts.flatten
  · have := (shortens ts hv hb).2 h
    omega
  · have hn : ¬ (unT ts).length < ts.flatten.length := fun h' => h ((shortens ts hv hb).1 h')
    have hbt : ∀ t ∈ ts, ∀ c ∈ t, c < 256 := fun t ht c hc => hb c (List.mem_flatten.2 ⟨t, ht, hc⟩)
    have hall : ∀ t ∈ ts, ∃ c, t = [c] := fun t ht => ((hv t ht).cost (hbt t ht)).2.2 (fun h92 => h (List.mem_flatten.2 ⟨t, ht, h92⟩))
    have h1 : (unT ts).length = ts.length := by
      unfold unT
      rw [unM_all_plain]
      · simp
      · intro u hu
        obtain ⟨t, ht, rfl⟩ := List.mem_map.1 hu
        obtain ⟨c, rfl⟩ := hall t ht
        rfl
    have h2 : ∀ l : List (List Int), (∀ t ∈ l, ∃ c, t = [c]) → l.flatten.length = l.length := by
      intro l
      induction l with
      | nil => simp
      | cons t l ih =>
        intro hl
        obtain ⟨c, rfl⟩ := hl t (by simp)
        have := ih (fun t ht => hl t (by simp [ht]))
        simp at this ⊢
        omega
    rw [h1, h2 ts hall]
    exact Nat.le_refl _
theorem Rest.bound {ts : List (List Int)} {k : Nat} {o : List Int} {post : List (List Int)} (h : Rest ts k o post) (hv : ∀ t ∈ ts, Valid t) (hb : ∀ c ∈ ts.flatten, c < 256) : o.length ≤ ts.flatten.length := by
  obtain ⟨pre, e, hk, ho⟩ := h
  have h1 := unT_len ts hv hb
  have h2 : o.length ≤ (unT ts).length := by rw [← ho]; simp
  omega
theorem unT_plain (c : Int) (post : List (List Int)) : unT ([c] :: post) = [c] ++ unT post := by
  show unM ((false, c) :: post.map unit) = _
  rw [unM_plain]
  rfl
theorem unT_simp (e : Int) (post : List (List Int)) : unT ([92, e] :: post) = [simpE e] ++ unT post := by
  show unM ((false, simpE e) :: post.map unit) = _
  rw [unM_plain]
  rfl
theorem unT_lone (a b c d : Int) (post : List (List Int)) (h : paired (hex4V a b c d) (post.map unit) = false) : unT ([92, 117, a, b, c, d] :: post) = utf8 (fix (hex4V a b c d)) ++ unT post := by
  show unM ((true, hex4V a b c d) :: post.map unit) = _
  rw [unM_lone _ _ h]
  rfl
theorem unT_pair (a b c d a2 b2 c2 d2 : Int) (post : List (List Int)) (h : isHi (hex4V a b c d)) (h2 : isLo (hex4V a2 b2 c2 d2)) :
    unT ([92, 117, a, b, c, d] :: [92, 117, a2, b2, c2, d2] :: post) = utf8 (pairV (hex4V a b c d) (hex4V a2 b2 c2 d2)) ++ unT post := by
  show unM ((true, hex4V a b c d) :: (true, hex4V a2 b2 c2 d2) :: post.map unit) = _
  rw [unM_pair _ _ _ h h2]
  rfl
theorem paired_no (v : Int) (us : List (Bool × Int)) (h : ∀ v2 us', us = (true, v2) :: us' → ¬ (isHi v ∧ isLo v2)) : paired v us = false := by
  unfold paired
  split
  · next v2 us' =>
    have := h v2 us' rfl
    unfold isHi isLo at this
    exact decide_eq_false (fun ⟨a, b, c, d⟩ => this ⟨⟨a, b⟩, c, d⟩)
  · rfl
/-- the loop's relation -/
def UnRel (w : World) (ts : List (List Int)) (len : Nat) (vo vi : Value) (wr : World) : Prop :=
  ∃ (k : Nat) (o : List Int) (post : List (List Int)), k ≤ len ∧ vi = .int .i64 k ∧ Hid (wr.ownsRow w.heap.size 5 1 vo o.length (B8 o)) ∧ Hid (Below w.heap.size w wr) ∧ Hid (Rest ts k o post)
theorem Rest.step1 {w wr w1 : World} {ts : List (List Int)} {len k : Nat} {o : List Int} {t : List Int} {post : List (List Int)} (h : Rest ts k o (t :: post)) (x : List Int) (hx : unT (t :: post) = x ++ unT post) (hk : k + t.length ≤ len)
    {v : Value} {k' : Int} (hkk : k' = (k + t.length : Nat)) (hown : w1.ownsRow w.heap.size 5 1 v (o.length + x.length) (B8 (o ++ x))) (hb : Below w.heap.size w wr) (hb1 : Below w.heap.size wr w1) : UnRel w ts len v (.int .i64 k') w1 := by
  subst hkk
  exact ⟨k + t.length, o ++ x, post, hk, rfl, by rw [List.length_append]; exact hown, hb.trans hb1, h.one x hx⟩
theorem Rest.step2 {w wr w1 : World} {ts : List (List Int)} {len k : Nat} {o : List Int} {t t2 : List Int} {post : List (List Int)} (h : Rest ts k o (t :: t2 :: post)) (x : List Int) (hx : unT (t :: t2 :: post) = x ++ unT post) (hk : k + t.length + t2.length ≤ len)
    {v : Value} {k' : Int} (hkk : k' = (k + t.length + t2.length : Nat)) (hown : w1.ownsRow w.heap.size 5 1 v (o.length + x.length) (B8 (o ++ x))) (hb : Below w.heap.size w wr) (hb1 : Below w.heap.size wr w1) : UnRel w ts len v (.int .i64 k') w1 := by
  subst hkk
  exact ⟨k + t.length + t2.length, o ++ x, post, hk, rfl, by rw [List.length_append]; exact hown, hb.trans hb1, h.two x hx⟩
theorem unescape_any (a : Option Addr) (zs : List Int) (ts : List (List Int)) (len cap : Nat) (w : World) (hlen : Hid (zs.length = len)) (hl : len ≤ 1048577) (hlc : len ≤ cap) (hcm : cap ≤ maxLen) (h1 : Row8 w a zs) (hts : Hid (zs = ts.flatten ∧ ∀ t ∈ ts, Valid t)) :
    Calls Try.prog 14 #[.slice a len cap] w fun e w' => ∃ v, e = .returned v ∧ w'.ownsRow w.heap.size 5 1 v (unT ts).length (B8 (unT ts)) ∧ Below w.heap.size w w' := by
  have H1 : Hid (Row8 w a zs) := h1
  have HB : Hid (∀ c ∈ ts.flatten, c < 256) := fun c hc => by have := h1.byte c (by rw [hts.out.1]; exact hc); omega
  clear h1
  unfold maxLen at hcm
  have hmk := make0 len (by omega)
  go_enter Try.func14, Try.ntmps14
  go_wp2
  go_loopw [3, 4] (fun vo vi wr => UnRel w ts len vo vi wr) (fun _ vi _ => len - (intOf vi).toNat)
  case atStart => exact ⟨0, [], ts, Nat.zero_le _, rfl, own0 len (by omega) w _ (Nat.le_refl _), below1 _ _, [], rfl, rfl, rfl⟩
  case round =>
    obtain ⟨k, o, post, hk, rfl, HO, hbel, HR⟩ := hrel
    clear hmk
    have hob : o.length ≤ len := by
      have := HR.out.bound hts.out.2 HB.out
      have h2 := hlen.out
      rw [hts.out.1] at h2
      omega
    have hkp := HR.out.len hts.out.1
    rw [hlen.out] at hkp
    cases post with
    | nil =>
      have hk' : ¬ (k < len) := by simp at hkp; omega
      clear hkp
      have HE : Hid (o = unT ts) := by
        obtain ⟨pre, -, -, ho⟩ := HR.out
        have : unT [] = [] := rfl
        rw [this, List.append_nil] at ho
        exact ho
      go_wp2
      go_ret
      exact ⟨_, rfl, by rw [← HE.out]; exact HO.out, hbel.out⟩
    | cons t post =>
      have hvt : Valid t := by
        obtain ⟨pre, e, -, -⟩ := HR.out
        exact hts.out.2 t (by rw [e]; simp)
      have hvp : Hid (∀ t ∈ post, Valid t) := by
        obtain ⟨pre, e, -, -⟩ := HR.out
        exact fun u hu => hts.out.2 u (by rw [e]; simp [hu])
      have htl : k + t.length ≤ len := by simp at hkp; omega
      have ht1 : 1 ≤ t.length := by rcases hvt with ⟨_, rfl, _⟩ | ⟨_, rfl, _⟩ | ⟨_, _, _, _, rfl, _⟩ <;> simp
      obtain ⟨b, off, _, ha, hbl, -⟩ := H1.out.at (k := k) (by rw [hlen.out]; omega)
      subst ha
      have HC : Hid (∀ j c, (t :: post).flatten[j]? = some c → wr.cell? ⟨b, off + (k + j), none⟩ = some (.int .u8 c) ∧ 0 ≤ c ∧ c ≤ 255) := by
        intro j c hj
        have hz := HR.out.at hts.out.1 hj
        rcases H1.out with e | ⟨b', off', ha, -, hc⟩
        · rw [e] at hz; simp at hz
        · simp at ha
          obtain ⟨rfl, rfl⟩ := ha
          exact ⟨(hbel.out.cell (p := ⟨b, off + (k + j), none⟩) hbl).trans (hc _ _ hz).1, (hc _ _ hz).2⟩
      have hBw := hbel.out.size
      clear H1
      have hlt : k < len := by omega
      have hlt' : (k : Int) < (len : Int) := by omega
      rcases hvt with ⟨c, rfl, h92⟩ | ⟨e, rfl, hs⟩ | ⟨x0, x1, x2, x3, rfl, g0, g1, g2, g3⟩
      · have c0 : wr.cell? ⟨b, off + k, none⟩ = some (.int .u8 c) := (HC.out 0 c rfl).1
        have hb' : (c != 92) = true := by simp [h92]
        clear hkp
        go_wp2_with (at_builtin; refine wpList_app8 wr rfl _ _ rfl w.heap.size u3 o.length o [c] rfl HO.out rfl (by simp; omega) hBw ?_; intro v' w1 hown1 hb1; have HO1 : Hid (w1.ownsRow w.heap.size 5 1 v' (o.length + 1) (B8 (o ++ [c]))) := hown1; clear hown1)
        go_roundw
        case rel => exact HR.out.step1 [c] (unT_plain c post) htl (by simp) HO1.out hbel.out hb1
        case measure => simp [intOf]; omega
      · have c0 : wr.cell? ⟨b, off + k, none⟩ = some (.int .u8 92) := (HC.out 0 92 rfl).1
        have c1 : wr.cell? ⟨b, off + (k + 1), none⟩ = some (.int .u8 e) := (HC.out 1 e rfl).1
        simp only [List.length_cons, List.length_nil] at htl
        clear hkp
        have HU : Hid (unT ([92, e] :: post) = [simpE e] ++ unT post) := unT_simp e post
        rcases hs with rfl | rfl | rfl | rfl | rfl | rfl | rfl | rfl
        · have HU2 : Hid (unT ([92, 34] :: post) = [34] ++ unT post) := HU.out
          clear HU
          go_wp2_with (at_builtin; refine wpList_app8 wr rfl _ _ rfl w.heap.size u3 o.length o [34] rfl HO.out rfl (by simp; omega) hBw ?_; intro v' w1 hown1 hb1; have HO1 : Hid (w1.ownsRow w.heap.size 5 1 v' (o.length + 1) (B8 (o ++ [34]))) := hown1; clear hown1)
          go_roundw
          case rel => exact HR.out.step1 [34] HU2.out htl (by simp) HO1.out hbel.out hb1
          case measure => simp [intOf]; omega
        · have HU2 : Hid (unT ([92, 92] :: post) = [92] ++ unT post) := HU.out
          clear HU
          go_wp2_with (at_builtin; refine wpList_app8 wr rfl _ _ rfl w.heap.size u3 o.length o [92] rfl HO.out rfl (by simp; omega) hBw ?_; intro v' w1 hown1 hb1; have HO1 : Hid (w1.ownsRow w.heap.size 5 1 v' (o.length + 1) (B8 (o ++ [92]))) := hown1; clear hown1)
          go_roundw
          case rel => exact HR.out.step1 [92] HU2.out htl (by simp) HO1.out hbel.out hb1
          case measure => simp [intOf]; omega
        · have HU2 : Hid (unT ([92, 47] :: post) = [47] ++ unT post) := HU.out
          clear HU
          go_wp2_with (at_builtin; refine wpList_app8 wr rfl _ _ rfl w.heap.size u3 o.length o [47] rfl HO.out rfl (by simp; omega) hBw ?_; intro v' w1 hown1 hb1; have HO1 : Hid (w1.ownsRow w.heap.size 5 1 v' (o.length + 1) (B8 (o ++ [47]))) := hown1; clear hown1)
          go_roundw
          case rel => exact HR.out.step1 [47] HU2.out htl (by simp) HO1.out hbel.out hb1
          case measure => simp [intOf]; omega
        · have HU2 : Hid (unT ([92, 98] :: post) = [8] ++ unT post) := HU.out
          clear HU
          go_wp2_with (at_builtin; refine wpList_app8 wr rfl _ _ rfl w.heap.size u3 o.length o [8] rfl HO.out rfl (by simp; omega) hBw ?_; intro v' w1 hown1 hb1; have HO1 : Hid (w1.ownsRow w.heap.size 5 1 v' (o.length + 1) (B8 (o ++ [8]))) := hown1; clear hown1)
          go_roundw
          case rel => exact HR.out.step1 [8] HU2.out htl (by simp) HO1.out hbel.out hb1
          case measure => simp [intOf]; omega
        · have HU2 : Hid (unT ([92, 102] :: post) = [12] ++ unT post) := HU.out
          clear HU
          go_wp2_with (at_builtin; refine wpList_app8 wr rfl _ _ rfl w.heap.size u3 o.length o [12] rfl HO.out rfl (by simp; omega) hBw ?_; intro v' w1 hown1 hb1; have HO1 : Hid (w1.ownsRow w.heap.size 5 1 v' (o.length + 1) (B8 (o ++ [12]))) := hown1; clear hown1)
          go_roundw
          case rel => exact HR.out.step1 [12] HU2.out htl (by simp) HO1.out hbel.out hb1
          case measure => simp [intOf]; omega
        · have HU2 : Hid (unT ([92, 110] :: post) = [10] ++ unT post) := HU.out
          clear HU
          go_wp2_with (at_builtin; refine wpList_app8 wr rfl _ _ rfl w.heap.size u3 o.length o [10] rfl HO.out rfl (by simp; omega) hBw ?_; intro v' w1 hown1 hb1; have HO1 : Hid (w1.ownsRow w.heap.size 5 1 v' (o.length + 1) (B8 (o ++ [10]))) := hown1; clear hown1)
          go_roundw
          case rel => exact HR.out.step1 [10] HU2.out htl (by simp) HO1.out hbel.out hb1
          case measure => simp [intOf]; omega
        · have HU2 : Hid (unT ([92, 114] :: post) = [13] ++ unT post) := HU.out
          clear HU
          go_wp2_with (at_builtin; refine wpList_app8 wr rfl _ _ rfl w.heap.size u3 o.length o [13] rfl HO.out rfl (by simp; omega) hBw ?_; intro v' w1 hown1 hb1; have HO1 : Hid (w1.ownsRow w.heap.size 5 1 v' (o.length + 1) (B8 (o ++ [13]))) := hown1; clear hown1)
          go_roundw
          case rel => exact HR.out.step1 [13] HU2.out htl (by simp) HO1.out hbel.out hb1
          case measure => simp [intOf]; omega
        · have HU2 : Hid (unT ([92, 116] :: post) = [9] ++ unT post) := HU.out
          clear HU
          go_wp2_with (at_builtin; refine wpList_app8 wr rfl _ _ rfl w.heap.size u3 o.length o [9] rfl HO.out rfl (by simp; omega) hBw ?_; intro v' w1 hown1 hb1; have HO1 : Hid (w1.ownsRow w.heap.size 5 1 v' (o.length + 1) (B8 (o ++ [9]))) := hown1; clear hown1)
          go_roundw
          case rel => exact HR.out.step1 [9] HU2.out htl (by simp) HO1.out hbel.out hb1
          case measure => simp [intOf]; omega
      · have c0 : wr.cell? ⟨b, off + k, none⟩ = some (.int .u8 92) := (HC.out 0 92 rfl).1
        have c1 : wr.cell? ⟨b, off + (k + 1), none⟩ = some (.int .u8 117) := (HC.out 1 117 rfl).1
        simp only [List.length_cons, List.length_nil] at htl
        obtain ⟨V, hV⟩ : ∃ V, V = hex4V x0 x1 x2 x3 := ⟨_, rfl⟩
        have HX : Hid (Calls Try.prog 17 #[.slice (some ⟨b, off + (k + 2), none⟩) (len - (k + 2)) (cap - (k + 2))] wr fun e w' => e = .returned (.int .i32 V) ∧ w' = wr) := by
          rw [hV]
          exact hex4_any b (off + (k + 2)) _ _ x0 x1 x2 x3 wr (by omega) (by omega) (by unfold maxLen; omega) (HC.out 2 x0 rfl).1 (HC.out 3 x1 rfl).1 (HC.out 4 x2 rfl).1 (HC.out 5 x3 rfl).1 (HC.out 2 x0 rfl).2 (HC.out 3 x1 rfl).2 (HC.out 4 x2 rfl).2 (HC.out 5 x3 rfl).2 g0 g1 g2 g3
        have hV0 : 0 ≤ V := by rw [hV]; unfold hex4V; omega
        have hV1 : V < 65536 := by rw [hV]; exact hex4V_lt _ _ _ _
        by_cases hsur : 55296 ≤ V ∧ V < 57344
        · have hd : decide (55296 ≤ V ∧ V < 57344) = true := decide_eq_true hsur
          have HLone : Hid ((∀ v2 us', post.map unit = (true, v2) :: us' → ¬ (isHi V ∧ isLo v2)) → unT ([92, 117, x0, x1, x2, x3] :: post) = utf8 65533 ++ unT post) := by
            intro h
            rw [unT_lone _ _ _ _ _ (by rw [← hV]; exact paired_no V _ h), ← hV, fix, if_pos hsur]
          have hDec : ∀ l, ¬ (isHi V ∧ isLo l) → Hid (Calls Try.prog 19 #[.int .i32 V, .int .i32 l] wr fun e w' => e = .returned (.int .i32 65533) ∧ w' = wr) := fun l h => decode_lone V l wr h
          have HD' : Hid (∀ l, ¬ (isHi V ∧ isLo l) → Hid (Calls Try.prog 19 #[.int .i32 V, .int .i32 l] wr fun e w' => e = .returned (.int .i32 65533) ∧ w' = wr)) := hDec
          clear hDec
          have hno1 : ¬ (isHi V ∧ isLo (-1)) := by unfold isLo; omega
          cases post with
          | nil =>
            have h12 : ¬ (k + 12 ≤ len) := by simp at hkp; omega
            have HU : Hid (unT ([92, 117, x0, x1, x2, x3] :: []) = utf8 65533 ++ unT []) := HLone.out (fun v2 us' h => by simp at h)
            have HD := HD'.out (-1) hno1
            clear hV g0 g1 g2 g3 HC hkp HD' HLone hno1
            go_wp2_with (first | (go_at_call 17; first | (refine HX.out.mono ?_; rintro e wr ⟨rfl, rfl⟩)) | (go_at_call 18; refine (isSurrogate_any _ _).mono ?_; rintro e wr ⟨rfl, rfl⟩; rw [hd]) | (go_at_call 19; refine HD.out.mono ?_; rintro e wr ⟨rfl, rfl⟩) | (go_at_call 20; refine (rune_any w.heap.size u3 o.length o 65533 wr HO.out hBw (by omega) (by omega) (by omega) (by omega)).mono ?_; rintro e w1 ⟨v1, rfl, hown1, hb1⟩; have HO1 : Hid (w1.ownsRow w.heap.size 5 1 v1 (o.length + (utf8 65533).length) (B8 (o ++ utf8 65533))) := hown1; clear hown1))
            go_roundw
            case rel => exact HR.out.step1 (utf8 65533) HU.out htl (by simp) HO1.out hbel.out hb1
            case measure => simp [intOf]; omega
          | cons t2 post2 =>
            have hvt2 : Valid t2 := hvp.out t2 (by simp)
            rcases hvt2 with ⟨c, rfl, h92⟩ | ⟨e, rfl, hs⟩ | ⟨y0, y1, y2, y3, rfl, f0, f1, f2, f3⟩
            · have HU : Hid (unT ([92, 117, x0, x1, x2, x3] :: [c] :: post2) = utf8 65533 ++ unT ([c] :: post2)) := HLone.out (fun v2 us' h => by simp [unit] at h)
              have HD := HD'.out (-1) hno1
              have c6 : wr.cell? ⟨b, off + (k + 6), none⟩ = some (.int .u8 c) := (HC.out 6 c rfl).1
              have hb' : (c == 92) = false := beq_eq_false_iff_ne.2 h92
              clear hV g0 g1 g2 g3 HC hkp HD' HLone hno1
              by_cases h12 : k + 12 ≤ len
              · go_wp2_with (first | (go_at_call 17; first | (refine HX.out.mono ?_; rintro e wr ⟨rfl, rfl⟩)) | (go_at_call 18; refine (isSurrogate_any _ _).mono ?_; rintro e wr ⟨rfl, rfl⟩; rw [hd]) | (go_at_call 19; refine HD.out.mono ?_; rintro e wr ⟨rfl, rfl⟩) | (go_at_call 20; refine (rune_any w.heap.size u3 o.length o 65533 wr HO.out hBw (by omega) (by omega) (by omega) (by omega)).mono ?_; rintro e w1 ⟨v1, rfl, hown1, hb1⟩; have HO1 : Hid (w1.ownsRow w.heap.size 5 1 v1 (o.length + (utf8 65533).length) (B8 (o ++ utf8 65533))) := hown1; clear hown1))
                go_roundw
                case rel => exact HR.out.step1 (utf8 65533) HU.out htl (by simp) HO1.out hbel.out hb1
                case measure => simp [intOf]; omega
              · go_wp2_with (first | (go_at_call 17; first | (refine HX.out.mono ?_; rintro e wr ⟨rfl, rfl⟩)) | (go_at_call 18; refine (isSurrogate_any _ _).mono ?_; rintro e wr ⟨rfl, rfl⟩; rw [hd]) | (go_at_call 19; refine HD.out.mono ?_; rintro e wr ⟨rfl, rfl⟩) | (go_at_call 20; refine (rune_any w.heap.size u3 o.length o 65533 wr HO.out hBw (by omega) (by omega) (by omega) (by omega)).mono ?_; rintro e w1 ⟨v1, rfl, hown1, hb1⟩; have HO1 : Hid (w1.ownsRow w.heap.size 5 1 v1 (o.length + (utf8 65533).length) (B8 (o ++ utf8 65533))) := hown1; clear hown1))
                go_roundw
                case rel => exact HR.out.step1 (utf8 65533) HU.out htl (by simp) HO1.out hbel.out hb1
                case measure => simp [intOf]; omega
            · have HU : Hid (unT ([92, 117, x0, x1, x2, x3] :: [92, e] :: post2) = utf8 65533 ++ unT ([92, e] :: post2)) := HLone.out (fun v2 us' h => by simp [unit] at h)
              have HD := HD'.out (-1) hno1
              have c6 : wr.cell? ⟨b, off + (k + 6), none⟩ = some (.int .u8 92) := (HC.out 6 92 rfl).1
              have c7 : wr.cell? ⟨b, off + (k + 7), none⟩ = some (.int .u8 e) := (HC.out 7 e rfl).1
              have hb' : (e == 117) = false := beq_eq_false_iff_ne.2 (by rintro rfl; simp [isSimp] at hs)
              clear hV g0 g1 g2 g3 HC hkp HD' HLone hno1 hs
              by_cases h12 : k + 12 ≤ len
              · go_wp2_with (first | (go_at_call 17; first | (refine HX.out.mono ?_; rintro e wr ⟨rfl, rfl⟩)) | (go_at_call 18; refine (isSurrogate_any _ _).mono ?_; rintro e wr ⟨rfl, rfl⟩; rw [hd]) | (go_at_call 19; refine HD.out.mono ?_; rintro e wr ⟨rfl, rfl⟩) | (go_at_call 20; refine (rune_any w.heap.size u3 o.length o 65533 wr HO.out hBw (by omega) (by omega) (by omega) (by omega)).mono ?_; rintro e w1 ⟨v1, rfl, hown1, hb1⟩; have HO1 : Hid (w1.ownsRow w.heap.size 5 1 v1 (o.length + (utf8 65533).length) (B8 (o ++ utf8 65533))) := hown1; clear hown1))
                go_roundw
                case rel => exact HR.out.step1 (utf8 65533) HU.out htl (by simp) HO1.out hbel.out hb1
                case measure => simp [intOf]; omega
              · go_wp2_with (first | (go_at_call 17; first | (refine HX.out.mono ?_; rintro e wr ⟨rfl, rfl⟩)) | (go_at_call 18; refine (isSurrogate_any _ _).mono ?_; rintro e wr ⟨rfl, rfl⟩; rw [hd]) | (go_at_call 19; refine HD.out.mono ?_; rintro e wr ⟨rfl, rfl⟩) | (go_at_call 20; refine (rune_any w.heap.size u3 o.length o 65533 wr HO.out hBw (by omega) (by omega) (by omega) (by omega)).mono ?_; rintro e w1 ⟨v1, rfl, hown1, hb1⟩; have HO1 : Hid (w1.ownsRow w.heap.size 5 1 v1 (o.length + (utf8 65533).length) (B8 (o ++ utf8 65533))) := hown1; clear hown1))
                go_roundw
                case rel => exact HR.out.step1 (utf8 65533) HU.out htl (by simp) HO1.out hbel.out hb1
                case measure => simp [intOf]; omega
            · have htl2 : k + 12 ≤ len := by simp at hkp; omega
              have c6 : wr.cell? ⟨b, off + (k + 6), none⟩ = some (.int .u8 92) := (HC.out 6 92 rfl).1
              have c7 : wr.cell? ⟨b, off + (k + 7), none⟩ = some (.int .u8 117) := (HC.out 7 117 rfl).1
              obtain ⟨V2, hV2⟩ : ∃ V2, V2 = hex4V y0 y1 y2 y3 := ⟨_, rfl⟩
              have HX2 : Hid (Calls Try.prog 17 #[.slice (some ⟨b, off + (k + 8), none⟩) (len - (k + 8)) (cap - (k + 8))] wr fun e w' => e = .returned (.int .i32 V2) ∧ w' = wr) := by
                rw [hV2]
                exact hex4_any b (off + (k + 8)) _ _ y0 y1 y2 y3 wr (by omega) (by omega) (by unfold maxLen; omega) (HC.out 8 y0 rfl).1 (HC.out 9 y1 rfl).1 (HC.out 10 y2 rfl).1 (HC.out 11 y3 rfl).1 (HC.out 8 y0 rfl).2 (HC.out 9 y1 rfl).2 (HC.out 10 y2 rfl).2 (HC.out 11 y3 rfl).2 f0 f1 f2 f3
              have hV20 : 0 ≤ V2 := by rw [hV2]; unfold hex4V; omega
              have hV21 : V2 < 65536 := by rw [hV2]; exact hex4V_lt _ _ _ _
              by_cases hpair : isHi V ∧ isLo V2
              · have HU : Hid (unT ([92, 117, x0, x1, x2, x3] :: [92, 117, y0, y1, y2, y3] :: post2) = utf8 (pairV V V2) ++ unT post2) := by
                  rw [hV, hV2]
                  exact unT_pair _ _ _ _ _ _ _ _ _ (by rw [← hV]; exact hpair.1) (by rw [← hV2]; exact hpair.2)
                have HD : Hid (Calls Try.prog 19 #[.int .i32 V, .int .i32 V2] wr fun e w' => e = .returned (.int .i32 (pairV V V2)) ∧ w' = wr) := decode_pair V V2 wr hpair.1 hpair.2
                obtain ⟨R, hR⟩ : ∃ R, R = pairV V V2 := ⟨_, rfl⟩
                rw [← hR] at HU HD
                have hR0 : 65536 ≤ R := by rw [hR]; unfold pairV; have := hpair.1.1; have := hpair.2.1; omega
                have hR1 : R ≤ 1114111 := by rw [hR]; unfold pairV; have := hpair.1.2; have := hpair.2.2; omega
                have hbR : (R != 65533) = true := by simp; omega
                clear hV g0 g1 g2 g3 HC hkp HD' HLone hno1 hV2 hR hpair
                go_wp2_with (first | (go_at_call 17; first | (with_reducible refine HX.out.mono ?_; rintro e wr ⟨rfl, rfl⟩) | (with_reducible refine HX2.out.mono ?_; rintro e wr ⟨rfl, rfl⟩)) | (go_at_call 18; refine (isSurrogate_any _ _).mono ?_; rintro e wr ⟨rfl, rfl⟩; rw [hd]) | (go_at_call 19; refine HD.out.mono ?_; rintro e wr ⟨rfl, rfl⟩) | (go_at_call 20; refine (rune_any w.heap.size u3 o.length o R wr HO.out hBw (by omega) (by omega) (by omega) (by omega)).mono ?_; rintro e w1 ⟨v1, rfl, hown1, hb1⟩; have HO1 : Hid (w1.ownsRow w.heap.size 5 1 v1 (o.length + (utf8 R).length) (B8 (o ++ utf8 R))) := hown1; clear hown1))
                go_roundw
                case rel => exact HR.out.step2 (utf8 R) HU.out htl2 (by simp) HO1.out hbel.out hb1
                case measure => simp [intOf]; omega
              · have HU : Hid (unT ([92, 117, x0, x1, x2, x3] :: [92, 117, y0, y1, y2, y3] :: post2) = utf8 65533 ++ unT ([92, 117, y0, y1, y2, y3] :: post2)) := HLone.out (fun v2 us' h => by
                  simp only [List.map_cons, unit, List.cons.injEq, Prod.mk.injEq, true_and] at h
                  rw [← h.1, ← hV2]
                  exact hpair)
                have HD := HD'.out V2 hpair
                clear hV g0 g1 g2 g3 HC hkp HD' HLone hno1 hV2 hpair
                go_wp2_with (first | (go_at_call 17; first | (with_reducible refine HX.out.mono ?_; rintro e wr ⟨rfl, rfl⟩) | (with_reducible refine HX2.out.mono ?_; rintro e wr ⟨rfl, rfl⟩)) | (go_at_call 18; refine (isSurrogate_any _ _).mono ?_; rintro e wr ⟨rfl, rfl⟩; rw [hd]) | (go_at_call 19; refine HD.out.mono ?_; rintro e wr ⟨rfl, rfl⟩) | (go_at_call 20; refine (rune_any w.heap.size u3 o.length o 65533 wr HO.out hBw (by omega) (by omega) (by omega) (by omega)).mono ?_; rintro e w1 ⟨v1, rfl, hown1, hb1⟩; have HO1 : Hid (w1.ownsRow w.heap.size 5 1 v1 (o.length + (utf8 65533).length) (B8 (o ++ utf8 65533))) := hown1; clear hown1))
                go_roundw
                case rel => exact HR.out.step1 (utf8 65533) HU.out htl (by simp) HO1.out hbel.out hb1
                case measure => simp [intOf]; omega
        · have hd : decide (55296 ≤ V ∧ V < 57344) = false := decide_eq_false hsur
          have HU : Hid (unT ([92, 117, x0, x1, x2, x3] :: post) = utf8 V ++ unT post) := by
            rw [unT_lone _ _ _ _ _ (by rw [← hV]; exact paired_no V _ (fun v2 us' _ h => hsur (by unfold isHi at h; omega))), ← hV, fix, if_neg hsur]
            exact rfl
          clear hV g0 g1 g2 g3 HC hkp
          go_wp2_with (first | (go_at_call 17; first | (refine HX.out.mono ?_; rintro e wr ⟨rfl, rfl⟩)) | (go_at_call 18; refine (isSurrogate_any _ _).mono ?_; rintro e wr ⟨rfl, rfl⟩; rw [hd]) | (go_at_call 20; refine (rune_any w.heap.size u3 o.length o V wr HO.out hBw (by omega) (by omega) (by omega) (by omega)).mono ?_; rintro e w1 ⟨v1, rfl, hown1, hb1⟩; have HO1 : Hid (w1.ownsRow w.heap.size 5 1 v1 (o.length + (utf8 V).length) (B8 (o ++ utf8 V))) := hown1; clear hown1))
          go_roundw
          case rel => exact HR.out.step1 (utf8 V) HU.out htl (by simp) HO1.out hbel.out hb1
          case measure => simp [intOf]; omega
end Go.Proofs.Qxb6617065a
