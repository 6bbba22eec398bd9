import Derived.Test.Qxb6617582aWithin
import Derived.BigRegion
import Derived.Deep.DeepCutAuto
namespace Go.Proofs.Qxb6617582a
open Go.RowKit Go.Maps
set_option maxHeartbeats 4000000
set_option maxRecDepth 100000
/-- the first n cells of a slice -/
def RowV (w : World) (a : Option Addr) (n : Nat) (f : Nat → Value) : Prop := n = 0 ∨ ∃ b off, a = some ⟨b, off, none⟩ ∧ b < w.heap.size ∧ ∀ j, j < n → w.cell? ⟨b, off + j, none⟩ = some (f j)
theorem RowV.below {w w' : World} {a : Option Addr} {n : Nat} {f : Nat → Value} (h : RowV w a n f) (hb : Below w.heap.size w w') : RowV w' a n f := by
  rcases h with h | ⟨b, off, ha, hlt, hc⟩
  · exact .inl h
  · exact .inr ⟨b, off, ha, Nat.lt_of_lt_of_le hlt hb.size, fun j hj => (hb.cell (p := ⟨b, off + j, none⟩) hlt).trans (hc j hj)⟩
theorem RowV.at {w : World} {a : Option Addr} {n : Nat} {f : Nat → Value} (h : RowV w a n f) {k : Nat} (hk : k < n) : ∃ b off, a = some ⟨b, off, none⟩ ∧ b < w.heap.size ∧ w.cell? ⟨b, off + k, none⟩ = some (f k) := by
  rcases h with h | ⟨b, off, ha, hlt, hc⟩
  · omega
  · exact ⟨b, off, ha, hlt, hc k hk⟩
theorem eql29 (w : World) (p : Option Nat) : (binOp .eql 29 (.map p) (.map none)).run Try.prog w = .ok (.bool p.isNone) w := by
  have h : ∀ d : Nat, (Op.equalIn (d + 1) 29 (.map p) (.map none)).run Try.prog w = .ok p.isNone w := fun d => by cases p <;> simp [Op.equalIn, run_underlying Try.underlying29]
  simp only [binOp]
  simp [Op.equal, Op.maxDepth, h 9999]
theorem cell_box (w : World) (p : Option Nat) (L : Int) : (w.alloc (.cells #[.map p, .int .u64 L] 31)).cell? ⟨w.heap.size, 0, none⟩ = some (.map p) := by
  have h := heap_alloc_new w (.cells #[.map p, .int .u64 L] 31)
  generalize w.alloc (.cells #[.map p, .int .u64 L] 31) = w' at h ⊢
  simp [World.cell?, h]
/-- the loop that lays the keys -/
def ZRel (w : World) (n : Nat) (ss : Nat → ByteArray) (pp qq : Nat → Int) (L : Int) (vi : Value) (wr : World) : Prop :=
  ∃ k, k ≤ n ∧ vi = .int .i64 (k : Nat) ∧ Hid (Below w.heap.size w wr) ∧ ((k = 0 ∧ wr = w.alloc (.cells #[.map none, .int .u64 L] 31)) ∨
    (0 < k ∧ Hid (wr.heap[w.heap.size]? = some (.cells #[.map (some (w.heap.size + 1)), .int .u64 L] 31 (0, 0))) ∧ Hid (KeyMap wr (w.heap.size + 1) ss pp qq k)))
theorem zzWithin_any (a0 a1 a2 a3 : Option Addr) (n c0 c1 c2 c3 : Nat) (ss : Nat → ByteArray) (pp qq : Nat → Int) (bs : Nat → Bool) (L ii dd : Int) (w : World) (R0 : Hid (RowV w a0 n (fun j => .string (ss j)))) (R1 : Hid (RowV w a1 n (fun j => .int .i64 (pp j)))) (R2 : Hid (RowV w a2 n (fun j => .int .i64 (qq j)))) (R3 : Hid (RowV w a3 n (fun j => .bool (bs j))))
    (hn : n ≤ 65537) (hok : Hid (∀ i, i < n → KOk ss pp qq i)) (bb : Bool) (hbb : Hid (bb = true ↔ AllAt pp qq n ii dd)) :
    Calls Try.prog 5 #[.slice a0 n c0, .slice a1 n c1, .slice a2 n c2, .slice a3 n c3, .int .u64 L, .int .i64 ii, .int .i64 dd] w fun e w' => e = .returned (.bool bb) ∧ Below w.heap.size w w' := by
  have hmm := @run_makeMap Try.prog
  have heq := eql29
  go_enter Try.func5, Try.ntmps5
  go_wp2
  go_loopw [16] (fun vi wr => ZRel w n ss pp qq L vi wr) (fun vi _ => n - (intOf vi).toNat)
  case atStart => exact ⟨0, Nat.zero_le _, rfl, below1 _ _, .inl ⟨rfl, rfl⟩⟩
  case round =>
    obtain ⟨k, hk, rfl, HB, hcase⟩ := hrel
    by_cases hlt : k < n
    · obtain ⟨b0, o0, ha0, l0, e0⟩ := R0.out.at hlt
      obtain ⟨b1, o1, ha1, l1, e1⟩ := R1.out.at hlt
      obtain ⟨b2, o2, ha2, l2, e2⟩ := R2.out.at hlt
      obtain ⟨b3, o3, ha3, l3, e3⟩ := R3.out.at hlt
      subst ha0 ha1 ha2 ha3
      have hlt' : (k : Int) < (n : Int) := by omega
      have HZ : Hid ((k = 0 ∧ wr = w.alloc (.cells #[.map none, .int .u64 L] 31)) ∨ (0 < k ∧ Hid (wr.heap[w.heap.size]? = some (.cells #[.map (some (w.heap.size + 1)), .int .u64 L] 31 (0, 0))) ∧ Hid (KeyMap wr (w.heap.size + 1) ss pp qq k))) := hcase
      obtain ⟨mp, z0⟩ : ∃ mp, wr.cell? ⟨w.heap.size, 0, none⟩ = some (.map mp) := by
        rcases hcase with ⟨-, rfl⟩ | ⟨-, HX, -⟩
        · exact ⟨none, cell_box w none L⟩
        · exact ⟨_, by simp [World.cell?, HX.out]; rfl⟩
      clear hcase
      go_upto_if 30 with fail
      go_cut [31] from 20 to 34 (fun _ w' => Hid (w'.heap[w.heap.size]? = some (.cells #[.map (some (w.heap.size + 1)), .int .u64 L] 31 (0, 0))) ∧ Hid (KeyMap w' (w.heap.size + 1) ss pp qq k) ∧ Hid (Below w.heap.size w w'))
      case first =>
        rcases HZ.out with ⟨rfl, rfl⟩ | ⟨hk0, HX, HK⟩
        · have hmp : mp = none := by
            rw [cell_box] at z0
            simpa using z0.symm
          subst hmp
          go_wp2
          go_meet
          case rel =>
            have hb2 : Below w.heap.size w ((w.alloc (.cells #[.map (some (w.heap.size + 1)), .int .u64 L] 31)).alloc (.map #[] 0)) := (below1 w _).alloc (by simp) _
            refine ⟨(heap_alloc_old _ _ (by simp)).trans (heap_alloc_new _ _), ?_, hb2⟩
            have hkm := KeyMap.made (w.alloc (.cells #[.map (some (w.heap.size + 1)), .int .u64 L] 31)) ss pp qq
            simp only [World.size_alloc] at hkm
            exact hkm
        · have hmp : mp = some (w.heap.size + 1) := by
            simp [World.cell?, HX.out] at z0
            exact z0.symm
          subst hmp
          go_wp2
          go_meet
          case rel => exact ⟨HX, HK, HB⟩
      case rest =>
        obtain ⟨HX, HK, HBc⟩ := hcut
        clear HZ z0 mp HB
        have z0 : wc.cell? ⟨w.heap.size, 0, none⟩ = some (.map (some (w.heap.size + 1))) := by simp [World.cell?, HX.out]
        replace e0 : wc.cell? ⟨b0, o0 + k, none⟩ = some (.string (ss k)) := (HBc.out.cell (p := ⟨b0, o0 + k, none⟩) l0).trans e0
        replace e1 : wc.cell? ⟨b1, o1 + k, none⟩ = some (.int .i64 (pp k)) := (HBc.out.cell (p := ⟨b1, o1 + k, none⟩) l1).trans e1
        replace e2 : wc.cell? ⟨b2, o2 + k, none⟩ = some (.int .i64 (qq k)) := (HBc.out.cell (p := ⟨b2, o2 + k, none⟩) l2).trans e2
        replace e3 : wc.cell? ⟨b3, o3 + k, none⟩ = some (.bool (bs k)) := (HBc.out.cell (p := ⟨b3, o3 + k, none⟩) l3).trans e3
        obtain ⟨w1, hrun, hK1, hg1⟩ := KeyMap.update (KeyMap.of_block (w' := wc.drew) HK.out rfl) (by unfold maxLen; omega) (hok.out k hlt) (bs k)
        have HK1 : Hid (KeyMap w1 (w.heap.size + 1) ss pp qq (k + 1)) := hK1
        have HX1 : Hid (w1.heap[w.heap.size]? = some (.cells #[.map (some (w.heap.size + 1)), .int .u64 L] 31 (0, 0))) := (hg1.block w.heap.size (Array.getElem?_eq_some_iff.1 HX.out).1 (by simp)).trans HX.out
        have HB1 : Hid (Below w.heap.size w w1) := HBc.out.drew.grown hg1 HBc.out.size (fun k e => by cases e; omega)
        clear hK1 hg1
        go_wp2
        go_region
        go_wp2
        go_roundw
        case rel => exact ⟨k + 1, by omega, by go_num, HB1, .inr ⟨by omega, HX1, HK1⟩⟩
        case measure => simp [intOf]; omega
    · obtain rfl : n = k := by omega
      clear hlt hk
      rcases hcase with ⟨rfl, rfl⟩ | ⟨hk0, HX, HK⟩
      · have hb1 : bb = true := hbb.out.2 (fun i hi => by omega)
        subst hb1
        go_wp2_with fail
        refine (within_nil w.heap.size ii dd _ (cell_box w none L)).mono ?_
        rintro e w1 ⟨rfl, hb1⟩
        go_wp2
        go_ret
        exact ⟨rfl, (below1 w _).trans (hb1.mono (by simp))⟩
      · have z0 : wr.cell? ⟨w.heap.size, 0, none⟩ = some (.map (some (w.heap.size + 1))) := by simp [World.cell?, HX.out]
        go_wp2_with fail
        refine (within_any w.heap.size (w.heap.size + 1) n ss pp qq ii dd wr z0 HK.out hok bb hbb).mono ?_
        rintro e w1 ⟨rfl, hb1⟩
        go_wp2
        go_ret
        exact ⟨rfl, HB.out.trans (hb1.mono HB.out.size)⟩
end Go.Proofs.Qxb6617582a
