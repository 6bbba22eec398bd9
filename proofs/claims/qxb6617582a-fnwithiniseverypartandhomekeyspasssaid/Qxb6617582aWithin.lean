import Derived.Test.Qxb6617582aKey
namespace Go.Proofs.Qxb6617582a
open Go.RowKit Go.Maps
set_option maxHeartbeats 2000000
set_option maxRecDepth 100000
theorem below1 (w : World) (o : Obj) : Below w.heap.size w (w.alloc o) := (Below.refl _ _).alloc (Nat.le_refl _) _
/-- every key's place is the place -/
def AllAt (pp qq : Nat → Int) (m : Nat) (ii dd : Int) : Prop := ∀ i, i < m → pp i = ii ∧ qq i = dd
/-- the loop over the keys -/
def WRel (w : World) (b r m : Nat) (ss : Nat → ByteArray) (pp qq : Nat → Int) (D : DataW Unit) (ii dd : Int) (wr : World) : Prop :=
  ∃ (left : Lit → Bool) (cnt : Nat), Hid (wr.ranges Try.prog 35 (plainElem Try.prog 4) b r m D left cnt) ∧ Hid (∀ l, left l = true → Maps.has D l = true) ∧
    Hid (∀ i l, i < m → keyOf Try.prog 35 (kv (ss i) (pp i) (qq i)) = some l → left l = false → pp i = ii ∧ qq i = dd) ∧ Hid (Below w.heap.size w wr) ∧ Hid (wr.heap[w.heap.size]? = some (.cells #[.int .i64 ii, .int .i64 dd] 33 (0, 0)))
theorem within_nil (sb : Nat) (ii dd : Int) (w : World) (h0 : w.cell? ⟨sb, 0, none⟩ = some (.map none)) :
    Calls Try.prog 6 #[.pointer (some ⟨sb, 0, none⟩), .agg #[.int .i64 ii, .int .i64 dd]] w fun e w' => e = .returned (.bool true) ∧ Below w.heap.size w w' := by
  have hlt : sb < w.heap.size := World.block_lt_of_cell? w _ h0
  have hrg := fun w => run_range_nilMap (P := Try.prog) w 29 35 4 Try.underlying29
  have hnx : ∀ ty, (Instr.next (.pointer (some ⟨w.heap.size + 1, 0, none⟩)) false ty).run Try.prog ((w.alloc (.cells #[.int .i64 ii, .int .i64 dd] 33)).alloc (.mapIter none 0 #[] 0)) = .ok (.tuple #[.bool false]) ((w.alloc (.cells #[.int .i64 ii, .int .i64 dd] 33)).alloc (.mapIter none 0 #[] 0)) := fun ty => by
    have := run_next_nilMap (P := Try.prog) (w.alloc (.cells #[.int .i64 ii, .int .i64 dd] 33)) ty 0 0 #[]
    simpa using this
  go_enter Try.func6, Try.ntmps6
  go_wp2
  refine wp_loop_rounds 1 ?_
  rw [rounds_succ]
  go_wp2
  go_ret
  exact ⟨rfl, (below1 w _).alloc (by simp) _⟩
theorem within_any (sb b m : Nat) (ss : Nat → ByteArray) (pp qq : Nat → Int) (ii dd : Int) (w : World) (h0 : w.cell? ⟨sb, 0, none⟩ = some (.map (some b))) (hk : KeyMap w b ss pp qq m) (hok : Hid (∀ i, i < m → KOk ss pp qq i)) (bb : Bool) (hbb : Hid (bb = true ↔ AllAt pp qq m ii dd)) :
    Calls Try.prog 6 #[.pointer (some ⟨sb, 0, none⟩), .agg #[.int .i64 ii, .int .i64 dd]] w fun e w' => e = .returned (.bool bb) ∧ Below w.heap.size w w' := by
  have hlt : sb < w.heap.size := World.block_lt_of_cell? w _ h0
  have hbl := hk.lt
  obtain ⟨D, hown, hD⟩ := hk
  have HD : Hid (KHas ss pp qq m D) := hD
  have HO : Hid (w.ownsMap Try.prog 35 (plainElem Try.prog 4) b m D) := hown
  clear hD hown
  go_enter Try.func6, Try.ntmps6
  go_wp2_with (at_range; refine wpList_range_own _ rfl _ 29 rfl 35 4 law35 Try.underlying29 _ b m D rfl (HO.out.alloc _) ?_; intro w0 hrg0 hg0 hs0)
  go_frame
  have er : (w.alloc (.cells #[.int .i64 ii, .int .i64 dd] 33)).heap.size = w.heap.size + 1 := by simp
  rw [er] at hrg0 hs0 ⊢
  have hbel0 : Below w.heap.size w w0 := ((below1 w _).grown hg0 (by rw [er]; omega) (fun k e => by cases e))
  have hbox0 : w0.heap[w.heap.size]? = some (.cells #[.int .i64 ii, .int .i64 dd] 33 (0, 0)) := (hg0.block w.heap.size (by rw [er]; omega) (by simp)).trans (heap_alloc_new _ _)
  have HR0 : Hid (w0.ranges Try.prog 35 (plainElem Try.prog 4) b (w.heap.size + 1) m D (Maps.has D) (Maps.size D)) := hrg0
  clear hrg0 hg0 hs0 er HO
  go_loopw [5] (fun _ wr => WRel w b (w.heap.size + 1) m ss pp qq D ii dd wr) (fun _ wr => wr.rangeLeft b (w.heap.size + 1))
  case atStart =>
    refine ⟨_, _, HR0, fun l h => h, fun i l hi hl h => ?_, hbel0, hbox0⟩
    have := (HD.out _ _ hl).2 ⟨i, hi, rfl⟩
    rw [h] at this
    cases this
  case round =>
    clear HR0 hbel0 hbox0
    obtain ⟨left, cnt, HR, HS, HN, HB, HX⟩ := hrel
    have hq33 := neq33
    have hX := HX.out
    have hXl : w.heap.size < wr.heap.size := (Array.getElem?_eq_some_iff.1 hX).1
    have HXX : Hid (wr.heap[w.heap.size]? = some (.cells #[.int .i64 ii, .int .i64 dd] 33 (0, 0))) := hX
    clear hX HX
    go_wp2_with (at_next; refine wpList_next_keys _ rfl _ rfl b (w.heap.size + 1) m D left cnt rfl HR.out HD.out HS.out ?_ ?_)
    · intro hl0
      have hb1 : bb = true := hbb.out.2 (fun i hi => by
        obtain ⟨l, hl⟩ := key_ok (ss i) (pp i) (qq i) (hok.out i hi).1 (hok.out i hi).2.1 (hok.out i hi).2.2
        exact HN.out i l hi hl (hl0 l))
      subst hb1
      clear hl0
      go_wp2
      go_ret
      exact ⟨rfl, HB.out⟩
    · intro i c kl w1 cnt1 hi hkl hrg1 hlt1 hg1 hs1 hen
      have Hkl : Hid (keyOf Try.prog 35 (kv (ss i) (pp i) (qq i)) = some kl) := hkl
      have HR1 : Hid (w1.ranges Try.prog 35 (plainElem Try.prog 4) b (w.heap.size + 1) m D (fun z => left z && !z.sameKey kl) cnt1) := hrg1
      have HB1 : Hid (Below w.heap.size w w1) := HB.out.grown hg1 HB.out.size (fun k e => by cases e; omega)
      have hbx : w1.heap[w.heap.size]? = some (.cells #[.int .i64 ii, .int .i64 dd] 33 (0, 0)) := (hg1.block w.heap.size hXl (by simp)).trans HXX.out
      have HX1 : Hid (w1.heap[w.heap.size]? = some (.cells #[.int .i64 ii, .int .i64 dd] 33 (0, 0))) := hbx
      have d0 : w1.cell? ⟨w.heap.size, 0, none⟩ = some (.int .i64 ii) := by simp [World.cell?, hbx]
      have d1 : w1.cell? ⟨w.heap.size, 1, none⟩ = some (.int .i64 dd) := by simp [World.cell?, hbx]
      have hbxl : w.heap.size < w1.heap.size := by rw [hs1]; exact hXl
      have hbl1 : b < w1.heap.size := by rw [hs1]; have := HB.out.size; omega
      have hrl1 : w.heap.size + 1 < w1.heap.size := HR1.out.lt
      clear hkl hrg1 hg1 hbx hs1
      by_cases hpl : pp i = ii ∧ qq i = dd
      · have hbe : (!(pp i == ii && qq i == dd)) = false := by simp [hpl.1, hpl.2]
        have Hpl : Hid (pp i = ii ∧ qq i = dd) := hpl
        clear hpl
        go_wp2
        go_roundw
        case rel =>
          refine ⟨_, cnt1, HR1.out.alloc _, fun l h => HS.out l ?_, fun i' l hi' hl' h => ?_, HB1.out.alloc HB1.out.size _, (heap_alloc_old _ _ hbxl).trans HX1.out⟩
          · simp at h
            exact h.1
          · cases hle : left l with
            | false => exact HN.out i' l hi' hl' hle
            | true =>
              have hsk : l.sameKey kl = true := by simpa [hle] using h
              have e := WideAt.sameKey_eq hsk
              subst e
              obtain ⟨-, e1, e2⟩ := kv_inj (law35.inj hl' Hkl.out)
              rw [e1, e2]
              exact Hpl.out
        case measure => rw [(HR1.out.alloc _).left_eq, HR.out.left_eq]; exact hlt1
      · have hbe : (!(pp i == ii && qq i == dd)) = true := by
          cases hh : (pp i == ii && qq i == dd) with
          | false => rfl
          | true => simp at hh; exact absurd hh hpl
        have hb0 : bb = false := by
          cases hc : bb with
          | false => rfl
          | true => exact absurd (hbb.out.1 hc i hi) hpl
        subst hb0
        go_wp2
        go_ret
        exact ⟨rfl, HB1.out.alloc HB1.out.size _⟩
end Go.Proofs.Qxb6617582a
