/- The small functions on the roads of the two copy laws: one contract each. -/
import Derived.Test.Qxb6616291aProg
import Derived.WalkKit
import Derived.BigQuiet
import Derived.Deep.QuietTactic
import Derived.Deep.OwnRows
import Derived.WalkSpells
import Derived.WalkSmall
namespace Go.Proofs.Qxb6616291a
open Go.RowKit
set_option maxHeartbeats 400000
set_option maxRecDepth 100000

/-! ### facts of the program's tables -/
theorem Try.info5 : (Try.prog.info? 5).map (fun i => (i.zero, i.size, i.bytes)) = some (some (.int .u8 0), 1, 1) := by kernel_rfl
theorem Try.info27 : (Try.prog.info? 27).map (fun i => (i.zero, i.size, i.bytes)) = some (some (.pointer none), 1, 8) := by kernel_rfl
theorem Try.info69 : (Try.prog.info? 69).map (fun i => (i.zero, i.size, i.bytes)) = some (some (.agg #[.int .i64 0, .string ⟨#[]⟩, .string ⟨#[]⟩, .string ⟨#[]⟩, .string ⟨#[]⟩, .slice none 0 0, .string ⟨#[]⟩, .string ⟨#[]⟩, .int .i64 0, .string ⟨#[]⟩]), 10, 152) := by kernel_rfl

/-! ### worlds -/
theorem below1 (w : World) (o : Obj) : Below w.heap.size w (w.alloc o) := (Below.refl _ _).alloc (Nat.le_refl _) _
theorem bcell {W w1 : World} (hb : Below W.heap.size W w1) : (∀ b o, b < W.heap.size → w1.cell? ⟨b, o, none⟩ = W.cell? ⟨b, o, none⟩) ∧ (∀ b o, b < W.heap.size → w1.frozen? ⟨b, o, none⟩ = W.frozen? ⟨b, o, none⟩) :=
  ⟨fun b o h => hb.cell (p := ⟨b, o, none⟩) h, fun b o h => hb.frozen (p := ⟨b, o, none⟩) h⟩
/-- the bytes of a slice lie in memory -/
def BytesAt (w : World) (a : Option Addr) (len : Nat) (z : Nat → Int) : Prop :=
  ∀ j, j < len → ∃ b off, a = some ⟨b, off, none⟩ ∧ b < w.heap.size ∧ w.cell? ⟨b, off + j, none⟩ = some (.int .u8 (z j))
theorem BytesAt.below {w w' : World} {a : Option Addr} {len : Nat} {z : Nat → Int} (h : BytesAt w a len z) (hb : Below w.heap.size w w') : BytesAt w' a len z := by
  intro j hj
  obtain ⟨b, off, ha, hlt, hc⟩ := h j hj
  exact ⟨b, off, ha, Nat.lt_of_lt_of_le hlt hb.size, (hb.cell (p := ⟨b, off + j, none⟩) hlt).trans hc⟩

/-! ### zzAdd, zzBranchBytes -/
theorem zzAdd_any (n k : Int) (w : World) (hn : 0 ≤ n) (hk : 0 ≤ k) :
    Calls Try.prog 42 #[.int .i64 n, .int .i64 k] w fun e w' => ∃ r : Int, e = .returned (.int .i64 r) ∧ 0 ≤ r ∧ r ≤ 2097152 ∧ (r ≤ 1048576 → r = n + k) ∧ w' = w := by
  by_cases h1 : 1048576 < n
  · go_enter Try.func42, Try.ntmps42
    go_wp2
    go_ret
    exact ⟨_, rfl, by omega, by omega, by omega, rfl⟩
  · by_cases h2 : 1048576 < k
    · go_enter Try.func42, Try.ntmps42
      go_wp2
      go_ret
      exact ⟨_, rfl, by omega, by omega, by omega, rfl⟩
    · go_enter Try.func42, Try.ntmps42
      go_wp2
      go_ret
      exact ⟨_, rfl, by omega, by omega, by omega, rfl⟩
theorem zzBranchBytes_any (id : Int) (s1 s2 s3 s4 : ByteArray) (ca : Option Addr) (cl cc : Nat) (s6 s7 : ByteArray) (at_ : Int) (s9 : ByteArray) (n : Int) (w : World) (hn : 0 ≤ n)
    (hl : cl ≤ maxLen) (h1 : s1.size ≤ maxLen) (h2 : s2.size ≤ maxLen) (h3 : s3.size ≤ maxLen) (h4 : s4.size ≤ maxLen) (h6 : s6.size ≤ maxLen) (h7 : s7.size ≤ maxLen) (h9 : s9.size ≤ maxLen) :
    Calls Try.prog 41 #[.agg #[.int .i64 id, .string s1, .string s2, .string s3, .string s4, .slice ca cl cc, .string s6, .string s7, .int .i64 at_, .string s9], .int .i64 n] w fun e w' =>
      ∃ r : Int, e = .returned (.int .i64 r) ∧ 0 ≤ r ∧ r ≤ 2097152 ∧ (r ≤ 1048576 → (cl : Int) ≤ r ∧ n ≤ r) ∧ Below w.heap.size w w' := by
  unfold maxLen at *
  go_enter Try.func41, Try.ntmps41
  go_wp2_with (go_at_call 42; refine (zzAdd_any _ _ _ (by omega) (by omega)).mono ?_; rintro e w' ⟨r, rfl, hr0, hr1, hr2, rfl⟩)
  go_ret
  exact ⟨_, rfl, by omega, by omega, by omega, (Below.refl _ _).alloc (Nat.le_refl _) _⟩

/-! ### the makers -/
theorem newTxnXid_any (x : ByteArray) (s : Int) (w : World) :
    Calls Try.prog 10 #[.string x, .int .u64 s] w fun e w' => e = .returned (.pointer (some ⟨w.heap.size, 0, none⟩)) ∧ Below w.heap.size w w' ∧ w'.heap.size = w.heap.size + 1 := by
  go_enter Try.func10, Try.ntmps10
  go_wp2
  go_ret
  exact ⟨rfl, (Below.refl _ _).alloc (Nat.le_refl _) _, by simp⟩
theorem newDirection_any (a b c d f : ByteArray) (w : World) :
    Calls Try.prog 24 #[.string a, .string b, .string c, .string d, .string f] w fun e w' => e = .returned (.pointer (some ⟨w.heap.size, 0, none⟩)) ∧ Below w.heap.size w w' ∧ w'.heap.size = w.heap.size + 1 := by
  go_enter Try.func24, Try.ntmps24
  go_wp2
  go_ret
  exact ⟨rfl, (Below.refl _ _).alloc (Nat.le_refl _) _, by simp⟩
theorem newBranch_any (id : Int) (s1 s2 s3 s4 : ByteArray) (ca : Option Addr) (cl cc : Nat) (s6 s7 : ByteArray) (at_ : Int) (s9 : ByteArray) (w : World) :
    Calls Try.prog 27 #[.int .i64 id, .string s1, .string s2, .string s3, .string s4, .slice ca cl cc, .string s6, .string s7, .int .i64 at_, .string s9] w fun e w' =>
      e = .returned (.agg #[.int .i64 id, .string s1, .string s2, .string s3, .string s4, .slice ca cl cc, .string s6, .string s7, .int .i64 at_, .string s9]) ∧ Below w.heap.size w w' := by
  go_enter Try.func27, Try.ntmps27
  go_wp2
  refine bodyPost_ret (v := .agg #[.int .i64 id, .string s1, .string s2, .string s3, .string s4, .slice ca cl cc, .string s6, .string s7, .int .i64 at_, .string s9]) (by simp [results, Try.results27, go_sem]) rfl ⟨rfl, ?_⟩
  exact below1 _ _
theorem noDirection_any (w : World) : Calls Try.prog 23 #[] w fun e w' => e = .returned (.pointer none) ∧ w' = w := by
  go_enter Try.func23, Try.ntmps23
  go_wp2
  go_ret
  exact ⟨rfl, rfl⟩
theorem noBranches_any (w : World) : Calls Try.prog 25 #[] w fun e w' => e = .returned (.slice none 0 0) ∧ w' = w := by
  go_enter Try.func25, Try.ntmps25
  go_wp2
  go_ret
  exact ⟨rfl, rfl⟩
theorem noTxn_any (w : World) : Calls Try.prog 29 #[] w fun e w' => e = .returned (.pointer none) ∧ w' = w := by
  go_enter Try.func29, Try.ntmps29
  go_wp2
  go_ret
  exact ⟨rfl, rfl⟩

/-! ### time -/
theorem wraps_u64 (n : Int) (h₀ : 0 ≤ n) (h₁ : n < 2 ^ 64) : IntKind.u64.wrap n = n := by rw [IntKind.wrap_u64]; omega
theorem b1 : bits .and .u64 0 1073741823 = 0 := by decide +kernel
theorem b2 : bits .andNot .u64 0 1073741823 = 0 := by decide +kernel
theorem b3 (n : Int) (h0 : 0 ≤ n) (h1 : n < 1073741824) : bits .or .u64 0 n = n := by
  obtain ⟨m, rfl⟩ := Int.eq_ofNat_of_zero_le h0
  have := (bits_nat .u64 64 (by decide) wraps_u64 0 m (by decide) (by omega)).2
  simpa using this
theorem b4 (n : Int) (h0 : 0 ≤ n) (h1 : n < 1073741824) : bits .and .u64 n 9223372036854775808 = 0 := by
  obtain ⟨m, rfl⟩ := Int.eq_ofNat_of_zero_le h0
  have := (bits_nat .u64 64 (by decide) wraps_u64 m (2 ^ 63) (by omega) (by decide)).1
  have h2 : m &&& 2 ^ 63 = 0 := by
    apply Nat.eq_of_testBit_eq
    intro i
    rw [Nat.testBit_and, Nat.testBit_two_pow, Nat.zero_testBit]
    by_cases e : 63 = i
    · subst e
      rw [Nat.testBit_lt_two_pow (by omega)]
      rfl
    · simp [e]
  rw [h2] at this
  exact this
theorem nsec0 (b : Nat) (w : World) (h : w.cell? ⟨b, 0, none⟩ = some (.int .u64 0)) :
    Calls Try.prog 49 #[.pointer (some ⟨b, 0, none⟩)] w fun e w' => e = .returned (.int .i32 0) ∧ w' = w := by
  have hb1 := b1
  go_enter Try.func49, Try.ntmps49
  go_wp2
  go_ret
  exact ⟨rfl, rfl⟩
theorem addSec_any (b : Nat) (w : World) (n d : Int) (h : w.cell? ⟨b, 0, none⟩ = some (.int .u64 n)) (h' : w.cell? ⟨b, 1, none⟩ = some (.int .i64 0)) (hf : w.frozen? ⟨b, 1, none⟩ = false) (h0 : 0 ≤ n) (h1 : n < 1073741824)
    (hd0 : -9223372036854775807 ≤ d) (hd : d ≤ 9223372036854775807) :
    Calls Try.prog 50 #[.pointer (some ⟨b, 0, none⟩), .int .i64 d] w fun e w' => e = .returned (.tuple #[]) ∧ w' = w.setCell ⟨b, 1, none⟩ (.int .i64 d) := by
  have hb4 := b4 n h0 h1
  have hdd : ((decide (0 < d)) == (decide (0 < d))) = true := by simp
  go_enter Try.func50, Try.ntmps50
  go_wp2
  go_end0
  exact ⟨rfl, rfl⟩
theorem add_pos (ns : Int) (w : World) (h0 : 0 ≤ ns) (h1 : ns ≤ 9223372036854775807) :
    Calls Try.prog 44 #[.agg #[.int .u64 0, .int .i64 0, .pointer none], .int .i64 ns] w fun e w' => e = .returned (.agg #[.int .u64 (ns % 1000000000), .int .i64 (ns / 1000000000), .pointer none]) ∧ Below w.heap.size w w' := by
  have hb2 := b2
  have hb3 := b3 (ns % 1000000000) (by omega) (by omega)
  have hb4 := b4 (ns % 1000000000) (by omega) (by omega)
  go_enter Try.func44, Try.ntmps44
  go_wp2_with (first | (go_at_call 49; refine (nsec0 _ _ (by simp)).mono ?_; rintro e w' ⟨rfl, rfl⟩) | (go_at_call 50; refine (addSec_any _ _ _ _ (by simp; rfl) (by simp) (by simp) (by omega) (by omega) (by omega) (by omega)).mono ?_; rintro e w' ⟨rfl, rfl⟩))
  refine bodyPost_ret (v := .agg #[.int .u64 (ns % 1000000000), .int .i64 (ns / 1000000000), .pointer none]) (by simp [results, Try.results44, go_sem]) rfl ⟨rfl, ?_⟩
  exact ((Below.refl _ _).alloc (by simp) _).alloc (by simp) _
theorem add_neg (ns : Int) (w : World) (h0 : ns < 0) (h1 : -9223372036854775808 ≤ ns) (hr : ns.tmod 1000000000 < 0) :
    Calls Try.prog 44 #[.agg #[.int .u64 0, .int .i64 0, .pointer none], .int .i64 ns] w fun e w' => e = .returned (.agg #[.int .u64 (ns.tmod 1000000000 + 1000000000), .int .i64 (ns.tdiv 1000000000 - 1), .pointer none]) ∧ Below w.heap.size w w' := by
  have hr2 : -1000000000 < ns.tmod 1000000000 := by have := Int.lt_tmod_of_pos ns (b := 1000000000) (by omega); omega
  have hd := Int.mul_tdiv_add_tmod ns 1000000000
  have hd2 : -9223372036854775808 ≤ 1000000000 * ns.tdiv 1000000000 := by omega
  have hd3 : 1000000000 * ns.tdiv 1000000000 ≤ 1000000000 := by omega
  clear hd
  have hb2 := b2
  have hb3 := b3 (ns.tmod 1000000000 + 1000000000) (by omega) (by omega)
  have hb4 := b4 (ns.tmod 1000000000 + 1000000000) (by omega) (by omega)
  go_enter Try.func44, Try.ntmps44
  go_wp2_with (first | (go_at_call 49; refine (nsec0 _ _ (by simp)).mono ?_; rintro e w' ⟨rfl, rfl⟩) | (go_at_call 50; refine (addSec_any _ _ _ _ (by simp; rfl) (by simp) (by simp) (by omega) (by omega) (by omega) (by omega)).mono ?_; rintro e w' ⟨rfl, rfl⟩))
  refine bodyPost_ret (v := .agg #[.int .u64 (ns.tmod 1000000000 + 1000000000), .int .i64 (ns.tdiv 1000000000 - 1), .pointer none]) (by simp [results, Try.results44, go_sem]) rfl ⟨rfl, ?_⟩
  exact ((Below.refl _ _).alloc (by simp) _).alloc (by simp) _
theorem add_zero (ns : Int) (w : World) (h0 : ns < 0) (h1 : -9223372036854775808 ≤ ns) (hr : ns.tmod 1000000000 = 0) :
    Calls Try.prog 44 #[.agg #[.int .u64 0, .int .i64 0, .pointer none], .int .i64 ns] w fun e w' => e = .returned (.agg #[.int .u64 0, .int .i64 (ns.tdiv 1000000000), .pointer none]) ∧ Below w.heap.size w w' := by
  have hd := Int.mul_tdiv_add_tmod ns 1000000000
  have hd2 : -9223372036854775808 ≤ 1000000000 * ns.tdiv 1000000000 := by omega
  have hd3 : 1000000000 * ns.tdiv 1000000000 ≤ 1000000000 := by omega
  clear hd
  have hb2 := b2
  have hb3 := b3 0 (by omega) (by omega)
  have hb4 := b4 0 (by omega) (by omega)
  go_enter Try.func44, Try.ntmps44
  go_wp2_with (first | (go_at_call 49; refine (nsec0 _ _ (by simp)).mono ?_; rintro e w' ⟨rfl, rfl⟩) | (go_at_call 50; refine (addSec_any _ _ _ _ (by simp; rfl) (by simp) (by simp) (by omega) (by omega) (by omega) (by omega)).mono ?_; rintro e w' ⟨rfl, rfl⟩))
  refine bodyPost_ret (v := .agg #[.int .u64 0, .int .i64 (ns.tdiv 1000000000), .pointer none]) (by simp [results, Try.results44, go_sem]) rfl ⟨rfl, ?_⟩
  exact ((Below.refl _ _).alloc (by simp) _).alloc (by simp) _
theorem add_time (ns : Int) (h0 : -9223372036854775808 ≤ ns) (h1 : ns ≤ 9223372036854775807) : ∃ a b : Int, ∀ w,
    Calls Try.prog 44 #[.agg #[.int .u64 0, .int .i64 0, .pointer none], .int .i64 ns] w fun e w' => e = .returned (.agg #[.int .u64 a, .int .i64 b, .pointer none]) ∧ Below w.heap.size w w' := by
  by_cases h : 0 ≤ ns
  · exact ⟨_, _, fun w => add_pos ns w h h1⟩
  · by_cases hr : ns.tmod 1000000000 = 0
    · exact ⟨_, _, fun w => add_zero ns w (by omega) h0 hr⟩
    · have : ns.tmod 1000000000 ≤ 0 := by
        have := Int.tmod_nonneg 1000000000 (show 0 ≤ -ns by omega)
        rw [Int.neg_tmod] at this
        omega
      exact ⟨_, _, fun w => add_neg ns w (by omega) h0 (by omega)⟩
/-- ZZtime is a function of its argument. -/
theorem ztime_any (ns : Int) (h0 : -9223372036854775808 ≤ ns) (h1 : ns ≤ 9223372036854775807) : ∃ a b : Int, ∀ w,
    Calls Try.prog 31 #[.int .i64 ns] w fun e w' => e = .returned (.agg #[.int .u64 a, .int .i64 b, .pointer none]) ∧ Below w.heap.size w w' := by
  obtain ⟨a, b, hab⟩ := add_time ns h0 h1
  refine ⟨a, b, fun w => ?_⟩
  go_enter Try.func31, Try.ntmps31
  go_wp2_with (go_at_call 44; refine (hab _).mono ?_; rintro e w1 ⟨rfl, hb⟩; obtain ⟨hc, hf⟩ := bcell hb; have hz : w.heap.size < w1.heap.size := (by have := hb.size; simp at this; omega))
  refine bodyPost_ret (v := .agg #[.int .u64 a, .int .i64 b, .pointer none]) (by simp [results, Try.results31, go_sem, hc]) rfl ⟨rfl, ?_⟩
  exact ((((below1 _ _).trans (hb.mono (by simp))).setCell (Nat.le_refl _) _).setCell (Nat.le_refl _) _).setCell (Nat.le_refl _) _

/-! ### bytes cloned, bytes compared -/
theorem clone_nil (w : World) :
    Calls Try.prog 28 #[.slice none 0 0] w fun e w' => e = .returned (.slice none 0 0) ∧ w' = w := by
  have hnil := fun (w : World) (a : Option Addr) (n c : Nat) => Lib.run_eql_slice_nil (P := Try.prog) w 48 5 a n c 0 0 Try.underlying48
  go_enter Try.func28, Try.ntmps28
  go_wp2
  go_ret
  exact ⟨rfl, rfl⟩
theorem clone_some (x : Addr) (len cap : Nat) (z : Nat → Int) (w : World) (hl : len ≤ 140737488351232) (hz : BytesAt w (some x) len z) :
    Calls Try.prog 28 #[.slice (some x) len cap] w fun e w' => e = .returned (.slice (some ⟨w.heap.size, 0, none⟩) len len) ∧ Below w.heap.size w w' ∧ w'.heap.size = w.heap.size + 1 ∧ w'.rowIs w.heap.size 5 len (fun j => .int .u8 (z j)) := by
  have hmk := run_make_row' (P := Try.prog) 48 5 (.int .u8 0) 1 Try.underlying48 Try.info5 rfl .i64 .i64 len (by omega) (by omega)
  have hnil := fun (w : World) (a : Option Addr) (n c : Nat) => Lib.run_eql_slice_nil (P := Try.prog) w 48 5 a n c 0 0 Try.underlying48
  go_enter Try.func28, Try.ntmps28
  go_wp2
  go_loopw [4] (fun i wr => ∃ k : Nat, k ≤ len ∧ i = .int .i64 k ∧ Below w.heap.size w wr ∧ wr.heap.size = w.heap.size + 1 ∧ wr.rowIs w.heap.size 5 len (fun j => if j < k then .int .u8 (z j) else .int .u8 0)) (fun i _ => len - (intOf i).toNat)
  case atStart => exact ⟨0, Nat.zero_le _, rfl, (Below.refl _ _).alloc (Nat.le_refl _) _, by simp, (World.rowIs_made w _ len 5).congr (by intro i hi; simp)⟩
  case round =>
    obtain ⟨k, hk, rfl, hbel, hsz, hrow⟩ := hrel
    by_cases hlt : k < len
    · obtain ⟨b, off, hx, hbl, hc⟩ := hz k hlt
      obtain rfl : x = ⟨b, off, none⟩ := by simpa using hx
      have hcw : wr.cell? ⟨b, off + k, none⟩ = some (.int .u8 (z k)) := (hbel.cell (p := ⟨b, off + k, none⟩) hbl).trans hc
      have hf := hrow.frozen k
      have hcr := hrow.cell hlt
      simp at hcr
      clear hz hx hc
      go_wp2
      go_roundw
      case rel =>
        refine ⟨k + 1, by omega, by go_num, hbel.setCell (by exact Nat.le_refl _) _, by simpa using hsz, (hrow.set k _).congr ?_⟩
        intro j hj
        by_cases e : j = k
        · subst e; simp
        · simp [e, show (j < k + 1) = (j < k) by simp; omega]
      case measure => simp [intOf]; omega
    · obtain rfl : k = len := by omega
      clear hz
      go_wp2
      go_ret
      exact ⟨rfl, hbel, hsz, hrow.congr (by intro i hi; simp [hi])⟩
/-- Whatever the bytes: the clone is nil just where the slice is, and holds the same bytes. -/
theorem clone_any (a : Option Addr) (len cap : Nat) (z : Nat → Int) (w : World) (hl : len ≤ 140737488351232) (hz : BytesAt w a len z) (hnil : a = none → len = 0 ∧ cap = 0) :
    Calls Try.prog 28 #[.slice a len cap] w fun e w' => ∃ a' cap', e = .returned (.slice a' len cap') ∧ a'.isNone = a.isNone ∧ Below w.heap.size w w' ∧ BytesAt w' a' len z ∧ ∀ x, a' = some x → w.heap.size ≤ x.block := by
  cases a with
  | none =>
    obtain ⟨rfl, rfl⟩ := hnil rfl
    refine (clone_nil w).mono ?_
    rintro e w' ⟨rfl, rfl⟩
    exact ⟨none, 0, rfl, rfl, Below.refl _ _, fun j hj => absurd hj (Nat.not_lt_zero _), fun x hx => by cases hx⟩
  | some x =>
    refine (clone_some x len cap z w hl hz).mono ?_
    rintro e w' ⟨rfl, hb, hs, hr⟩
    refine ⟨_, _, rfl, rfl, hb, fun j hj => ⟨_, _, rfl, by omega, ?_⟩, fun x hx => by cases hx; exact Nat.le_refl _⟩
    have := hr.cell hj
    simpa using this
theorem same_true (a1 a2 : Option Addr) (len c1 c2 : Nat) (z : Nat → Int) (w : World) (hl : len ≤ 140737488351232) (hn : a1.isNone = a2.isNone) (h1 : BytesAt w a1 len z) (h2 : BytesAt w a2 len z) :
    Calls Try.prog 39 #[.slice a1 len c1, .slice a2 len c2] w fun e w' => e = .returned (.bool true) ∧ Below w.heap.size w w' := by
  have hnil := fun (w : World) (a : Option Addr) (n c : Nat) => Lib.run_eql_slice_nil (P := Try.prog) w 48 5 a n c 0 0 Try.underlying48
  have hbb : (a2.isNone != a2.isNone) = false := by simp
  have hll : ((len : Int) != (len : Int)) = false := by simp
  go_enter Try.func39, Try.ntmps39
  go_wp2
  go_loopw [5] (fun i wr => ∃ k : Nat, k ≤ len ∧ i = .int .i64 k ∧ ∃ n, wr = w.drewN n) (fun i _ => len - (intOf i).toNat)
  case atStart => exact ⟨0, Nat.zero_le _, rfl, 0, rfl⟩
  case round =>
    obtain ⟨k, hk, rfl, nn, rfl⟩ := hrel
    by_cases hlt : k < len
    · obtain ⟨b, off, rfl, hbl, hc⟩ := h1 k hlt
      obtain ⟨b', off', rfl, hbl', hc'⟩ := h2 k hlt
      have hlt' : (k : Int) < (len : Int) := by omega
      have hzz : (z k != z k) = false := by simp
      clear h1 h2 hn hbb
      go_wp2
      go_quiet (fail)
      go_wp2
      go_roundw
      case rel => exact ⟨k + 1, by omega, by go_num, _, rfl⟩
      case measure => simp [intOf]; omega
    · clear h1 h2
      go_wp2
      go_ret
      exact ⟨rfl, below_drewN (Below.refl _ _) _⟩
theorem sameBranch_true (id : Int) (s1 s2 s3 s4 : ByteArray) (a1 a2 : Option Addr) (len c1 c2 : Nat) (s6 s7 : ByteArray) (att : Int) (s9 : ByteArray) (z : Nat → Int) (w : World) (hl : len ≤ 140737488351232) (hn : a1.isNone = a2.isNone) (h1 : BytesAt w a1 len z) (h2 : BytesAt w a2 len z) :
    Calls Try.prog 37 #[.int .i64 id, .string s1, .string s2, .string s3, .string s4, .slice a1 len c1, .string s6, .string s7, .int .i64 att, .string s9, .agg #[.int .i64 id, .string s1, .string s2, .string s3, .string s4, .slice a2 len c2, .string s6, .string s7, .int .i64 att, .string s9]] w fun e w' => e = .returned (.bool true) ∧ Below w.heap.size w w' := by
  have e1 : (id == id) = true := by simp
  have e2 : (att == att) = true := by simp
  have hbe : ∀ o, Below w.heap.size w (w.alloc o) := fun o => (Below.refl _ _).alloc (Nat.le_refl _) _
  have H1 : Hid (∀ o, BytesAt (w.alloc o) a1 len z) := fun o => h1.below (hbe o)
  have H2 : Hid (∀ o, BytesAt (w.alloc o) a2 len z) := fun o => h2.below (hbe o)
  clear h1 h2 hbe
  go_enter Try.func37, Try.ntmps37
  go_wp2_with (go_at_call 39; refine (same_true _ _ _ _ _ z _ hl hn (H1.out _) (H2.out _)).mono ?_; rintro e w1 ⟨rfl, hb⟩; have hc := fun o ho => hb.cell (p := ⟨w.heap.size, o, none⟩) ho)
  go_ret
  exact ⟨rfl, ((Below.refl _ _).alloc (Nat.le_refl _) _).trans (hb.mono (by simp))⟩
end Go.Proofs.Qxb6616291a
