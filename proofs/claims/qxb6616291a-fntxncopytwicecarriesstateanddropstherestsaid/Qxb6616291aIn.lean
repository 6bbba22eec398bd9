import Derived.Test.Qxb6616291aCopy
namespace Go.Proofs.Qxb6616291a
open Go.RowKit
set_option maxHeartbeats 400000
set_option maxRecDepth 100000
/-- a branch, as it came in -/
structure Br where
  id : Int
  s1 : ByteArray
  s2 : ByteArray
  s3 : ByteArray
  s4 : ByteArray
  ca : Option Addr
  cl : Nat
  cc : Nat
  s6 : ByteArray
  s7 : ByteArray
  att : Int
  s9 : ByteArray
  z : Nat → Int
/-- a branch's ten values, its context at another place -/
def Br.at (b : Br) (a : Option Addr) (c : Nat) : Array Value := #[.int .i64 b.id, .string b.s1, .string b.s2, .string b.s3, .string b.s4, .slice a b.cl c, .string b.s6, .string b.s7, .int .i64 b.att, .string b.s9]
def Br.vals (b : Br) : Array Value := #[.int .i64 b.id, .string b.s1, .string b.s2, .string b.s3, .string b.s4, .slice b.ca b.cl b.cc, .string b.s6, .string b.s7, .int .i64 b.att, .string b.s9]
structure Br.Ok (w : World) (b : Br) : Prop where
  h1 : b.s1.size ≤ maxLen
  h2 : b.s2.size ≤ maxLen
  h3 : b.s3.size ≤ maxLen
  h4 : b.s4.size ≤ maxLen
  h6 : b.s6.size ≤ maxLen
  h7 : b.s7.size ≤ maxLen
  h9 : b.s9.size ≤ maxLen
  hl : b.cl ≤ maxLen
  hn : b.ca = none → b.cl = 0 ∧ b.cc = 0
  hz : BytesAt w b.ca b.cl b.z
theorem Br.Ok.below {w w' : World} {b : Br} (h : b.Ok w) (hb : Below w.heap.size w w') : b.Ok w' := ⟨h.h1, h.h2, h.h3, h.h4, h.h6, h.h7, h.h9, h.hl, h.hn, h.hz.below hb⟩
/-- the branches of a slice that came in lie in memory -/
def BrsAt (w : World) (a : Option Addr) (n : Nat) (B : Nat → Br) : Prop :=
  ∀ i, i < n → ∃ b off, a = some ⟨b, off, none⟩ ∧ b < w.heap.size ∧ (∀ j, j < 10 → w.cell? ⟨b, off + i * 10 + j, none⟩ = (B i).vals[j]?) ∧ (B i).Ok w
theorem BrsAt.below {w w' : World} {a : Option Addr} {n : Nat} {B : Nat → Br} (h : BrsAt w a n B) (hb : Below w.heap.size w w') : BrsAt w' a n B := by
  intro i hi
  obtain ⟨b, off, ha, hlt, hc, hok⟩ := h i hi
  exact ⟨b, off, ha, Nat.lt_of_lt_of_le hlt hb.size, fun j hj => (hb.cell (p := ⟨b, _, none⟩) hlt).trans (hc j hj), hok.below hb⟩
/-- a transaction, as it came in -/
structure Tx where
  x : ByteArray
  st : ByteArray
  dp : Option Addr
  d1 : Int
  d2 : Int
  d3 : Int
  seq : Int
  ba : Option Addr
  bl : Nat
  bc : Nat
  nx : Bool
  wt : Int
  ra : Option Addr
  rl : Nat
  rc : Nat
  rz : Nat → Int
  B : Nat → Br
def Tx.val (t : Tx) : Value := .agg #[.string t.x, .string t.st, .pointer t.dp, .int .i64 t.d1, .int .i64 t.d2, .int .i64 t.d3, .int .u64 t.seq, .slice t.ba t.bl t.bc, .bool t.nx, .int .i64 t.wt, .slice t.ra t.rl t.rc]
/-- what a direction that came in holds -/
def DirAt (w : World) (p : Option Addr) : Prop :=
  ∀ d, p = some d → ∃ b o, d = ⟨b, o, none⟩ ∧ b < w.heap.size ∧ ∃ e0 e1 e2 e3 e4 : ByteArray, w.cell? ⟨b, o, none⟩ = some (.string e0) ∧ w.cell? ⟨b, o + 1, none⟩ = some (.string e1) ∧ w.cell? ⟨b, o + 2, none⟩ = some (.string e2) ∧ w.cell? ⟨b, o + 3, none⟩ = some (.string e3) ∧ w.cell? ⟨b, o + 4, none⟩ = some (.string e4) ∧
    e0.size ≤ maxLen ∧ e1.size ≤ maxLen ∧ e2.size ≤ maxLen ∧ e3.size ≤ maxLen ∧ e4.size ≤ maxLen
structure Tx.Ok (w : World) (t : Tx) : Prop where
  hx : t.x.size ≤ maxLen
  hst : t.st.size ≤ maxLen
  hd : DirAt w t.dp
  hd1 : -9223372036854775808 ≤ t.d1 ∧ t.d1 ≤ 9223372036854775807
  hd2 : -9223372036854775808 ≤ t.d2 ∧ t.d2 ≤ 9223372036854775807
  hd3 : -9223372036854775808 ≤ t.d3 ∧ t.d3 ≤ 9223372036854775807
  hbl : t.bl ≤ maxLen
  hbn : t.ba = none → t.bl = 0 ∧ t.bc = 0
  hb : BrsAt w t.ba t.bl t.B
  hrl : t.rl ≤ maxLen
  hrn : t.ra = none → t.rl = 0 ∧ t.rc = 0
  hr : BytesAt w t.ra t.rl t.rz
theorem DirAt.below {w w' : World} {p : Option Addr} (h : DirAt w p) (hb : Below w.heap.size w w') : DirAt w' p := by
  intro d hd
  obtain ⟨b, o, hdd, hlt, e0, e1, e2, e3, e4, c0, c1, c2, c3, c4, r⟩ := h d hd
  exact ⟨b, o, hdd, Nat.lt_of_lt_of_le hlt hb.size, e0, e1, e2, e3, e4, (hb.cell (p := ⟨b, _, none⟩) hlt).trans c0, (hb.cell (p := ⟨b, _, none⟩) hlt).trans c1, (hb.cell (p := ⟨b, _, none⟩) hlt).trans c2, (hb.cell (p := ⟨b, _, none⟩) hlt).trans c3, (hb.cell (p := ⟨b, _, none⟩) hlt).trans c4, r⟩
theorem Tx.Ok.below {w w' : World} {t : Tx} (h : t.Ok w) (hb : Below w.heap.size w w') : t.Ok w' := ⟨h.hx, h.hst, h.hd.below hb, h.hd1, h.hd2, h.hd3, h.hbl, h.hbn, h.hb.below hb, h.hrl, h.hrn, h.hr.below hb⟩

/-- the ten cells of one branch, a fact each -/
theorem BrsAt.ten {w : World} {a : Option Addr} {n : Nat} {B : Nat → Br} (h : BrsAt w a n B) {i : Nat} (hi : i < n) :
    ∃ b off, a = some ⟨b, off, none⟩ ∧ b < w.heap.size ∧ w.cell? ⟨b, off + i * 10, none⟩ = some (.int .i64 (B i).id) ∧ w.cell? ⟨b, off + i * 10 + 1, none⟩ = some (.string (B i).s1) ∧ w.cell? ⟨b, off + i * 10 + 2, none⟩ = some (.string (B i).s2) ∧
      w.cell? ⟨b, off + i * 10 + 3, none⟩ = some (.string (B i).s3) ∧ w.cell? ⟨b, off + i * 10 + 4, none⟩ = some (.string (B i).s4) ∧ w.cell? ⟨b, off + i * 10 + 5, none⟩ = some (.slice (B i).ca (B i).cl (B i).cc) ∧ w.cell? ⟨b, off + i * 10 + 6, none⟩ = some (.string (B i).s6) ∧
      w.cell? ⟨b, off + i * 10 + 7, none⟩ = some (.string (B i).s7) ∧ w.cell? ⟨b, off + i * 10 + 8, none⟩ = some (.int .i64 (B i).att) ∧ w.cell? ⟨b, off + i * 10 + 9, none⟩ = some (.string (B i).s9) ∧ (B i).Ok w := by
  obtain ⟨b, off, ha, hlt, hc, hok⟩ := h i hi
  exact ⟨b, off, ha, hlt, hc 0 (by omega), hc 1 (by omega), hc 2 (by omega), hc 3 (by omega), hc 4 (by omega), hc 5 (by omega), hc 6 (by omega), hc 7 (by omega), hc 8 (by omega), hc 9 (by omega), hok⟩

theorem step_bytes {t : Tx} {k : Nat} {r r' : Int} (h : r ≤ 1048576 → (t.rl : Int) ≤ r ∧ ∀ i, i < k → ((t.B i).cl : Int) ≤ r) (h' : r' ≤ 1048576 → ((t.B k).cl : Int) ≤ r' ∧ r ≤ r') :
    r' ≤ 1048576 → (t.rl : Int) ≤ r' ∧ ∀ i, i < k + 1 → ((t.B i).cl : Int) ≤ r' := by
  intro hr
  obtain ⟨h1, h2⟩ := h' hr
  obtain ⟨h3, h4⟩ := h (by omega)
  refine ⟨by omega, fun i hi => ?_⟩
  by_cases e : i = k
  · subst e; exact h1
  · have := h4 i (by omega); omega
theorem zzTxnBytes_any (t : Tx) (w : World) (h : t.Ok w) :
    Calls Try.prog 22 #[t.val] w fun e w' => ∃ r : Int, e = .returned (.int .i64 r) ∧ 0 ≤ r ∧ r ≤ 2097152 ∧ (r ≤ 1048576 → (t.rl : Int) ≤ r ∧ ∀ i, i < t.bl → ((t.B i).cl : Int) ≤ r) ∧ Below w.heap.size w w' := by
  obtain ⟨hx, hst, hd, _, _, _, hbl, hbn, hb, hrl, hrn, hr⟩ := h
  clear hrn hr hbn
  unfold maxLen at hx hst hbl hrl
  cases hdp : t.dp with
  | none =>
    unfold Tx.val
    rw [hdp]
    clear hd
    go_enter Try.func22, Try.ntmps22
    go_wp2_with (go_at_call 42; refine (zzAdd_any _ _ _ (by omega) (by omega)).mono ?_; rintro e w' ⟨r, rfl, hr0, hr1, hr2, rfl⟩)
    have hrr : r ≤ 1048576 → (t.rl : Int) ≤ r := by omega
    clear hr2
    generalize hW : w.alloc _ = W
    have hB : Below w.heap.size w W := by rw [← hW]; exact below1 _ _
    have hb' := hb.below hB
    have hWs : w.heap.size < W.heap.size := by rw [← hW]; simp
    have hWc : W.cell? ⟨w.heap.size, 7, none⟩ = some (.slice t.ba t.bl t.bc) := by rw [← hW]; simp
    clear hW hb
    go_loopw [3, 4] (fun n i wr => ∃ (k : Nat) (r : Int), k ≤ t.bl ∧ i = .int .i64 k ∧ n = .int .i64 r ∧ 0 ≤ r ∧ r ≤ 2097152 ∧ (r ≤ 1048576 → (t.rl : Int) ≤ r ∧ ∀ i, i < k → ((t.B i).cl : Int) ≤ r) ∧ Below W.heap.size W wr) (fun _ i _ => t.bl - (intOf i).toNat)
    case atStart => exact ⟨0, r, Nat.zero_le _, rfl, rfl, hr0, hr1, fun h => ⟨hrr h, fun i hi => absurd hi (Nat.not_lt_zero _)⟩, Below.refl _ _⟩
    case round =>
      obtain ⟨k, r, hk, rfl, rfl, hr0, hr1, hr2, hbel⟩ := hrel
      have hWc' := (hbel.cell (p := ⟨w.heap.size, 7, none⟩) hWs).trans hWc
      have Hr2 : Hid (r ≤ 1048576 → (t.rl : Int) ≤ r ∧ ∀ i, i < k → ((t.B i).cl : Int) ≤ r) := hr2
      clear hr2 hWc
      have hbelw : Below w.heap.size w wr := hB.trans (hbel.mono (by omega))
      by_cases hlt : k < t.bl
      · obtain ⟨b, off, ha, hbl, c0, c1, c2, c3, c4, c5, c6, c7, c8, c9, hok⟩ := (hb'.below hbel).ten hlt
        rw [ha] at hWc'
        clear hb' ha
        obtain ⟨o1, o2, o3, o4, o6, o7, o9, ol, -, -⟩ := hok
        go_wp2_with (go_at_call 41; refine (zzBranchBytes_any _ _ _ _ _ _ _ _ _ _ _ _ _ _ (by omega) ol o1 o2 o3 o4 o6 o7 o9).mono ?_; rintro e w' ⟨r', rfl, hr0', hr1', hr2', hbel'⟩)
        · go_ret
          exact ⟨r', rfl, hr0', hr1', by omega, hbelw.trans (hbel'.mono hbelw.size)⟩
        · go_roundw
          case rel => exact ⟨k + 1, r', by omega, by go_num, rfl, hr0', hr1', step_bytes Hr2.out hr2', hbel.trans (hbel'.mono hbel.size)⟩
          case measure => simp [intOf]; omega
      · obtain rfl : k = t.bl := by omega
        clear hb'
        go_wp2
        go_ret
        exact ⟨r, rfl, hr0, hr1, Hr2.out, hbelw⟩
  | some d =>
    obtain ⟨db, dof, rfl, hdlt, e0, e1, e2, e3, e4, d0, d1, d2, d3, d4, l0, l1, l2, l3, l4⟩ := hd d hdp
    unfold maxLen at l0 l1 l2 l3 l4
    unfold Tx.val
    rw [hdp]
    clear hd hdp
    go_enter Try.func22, Try.ntmps22
    go_wp2_with (go_at_call 42; refine (zzAdd_any _ _ _ (by omega) (by omega)).mono ?_; rintro e w' ⟨r, rfl, hr0, hr1, hr2, rfl⟩)
    have hrr : r ≤ 1048576 → (t.rl : Int) ≤ r := by omega
    clear hr2
    generalize hW : w.alloc _ = W
    have hB : Below w.heap.size w W := by rw [← hW]; exact below1 _ _
    have hb' := hb.below hB
    have hWs : w.heap.size < W.heap.size := by rw [← hW]; simp
    have hWc : W.cell? ⟨w.heap.size, 7, none⟩ = some (.slice t.ba t.bl t.bc) := by rw [← hW]; simp
    clear hW hb
    go_loopw [3, 4] (fun n i wr => ∃ (k : Nat) (r : Int), k ≤ t.bl ∧ i = .int .i64 k ∧ n = .int .i64 r ∧ 0 ≤ r ∧ r ≤ 2097152 ∧ (r ≤ 1048576 → (t.rl : Int) ≤ r ∧ ∀ i, i < k → ((t.B i).cl : Int) ≤ r) ∧ Below W.heap.size W wr) (fun _ i _ => t.bl - (intOf i).toNat)
    case atStart => exact ⟨0, r, Nat.zero_le _, rfl, rfl, hr0, hr1, fun h => ⟨hrr h, fun i hi => absurd hi (Nat.not_lt_zero _)⟩, Below.refl _ _⟩
    case round =>
      obtain ⟨k, r, hk, rfl, rfl, hr0, hr1, hr2, hbel⟩ := hrel
      have hWc' := (hbel.cell (p := ⟨w.heap.size, 7, none⟩) hWs).trans hWc
      have Hr2 : Hid (r ≤ 1048576 → (t.rl : Int) ≤ r ∧ ∀ i, i < k → ((t.B i).cl : Int) ≤ r) := hr2
      clear hr2 hWc
      have hbelw : Below w.heap.size w wr := hB.trans (hbel.mono (by omega))
      by_cases hlt : k < t.bl
      · obtain ⟨b, off, ha, hbl, c0, c1, c2, c3, c4, c5, c6, c7, c8, c9, hok⟩ := (hb'.below hbel).ten hlt
        rw [ha] at hWc'
        clear hb' ha
        obtain ⟨o1, o2, o3, o4, o6, o7, o9, ol, -, -⟩ := hok
        go_wp2_with (go_at_call 41; refine (zzBranchBytes_any _ _ _ _ _ _ _ _ _ _ _ _ _ _ (by omega) ol o1 o2 o3 o4 o6 o7 o9).mono ?_; rintro e w' ⟨r', rfl, hr0', hr1', hr2', hbel'⟩)
        · go_ret
          exact ⟨r', rfl, hr0', hr1', by omega, hbelw.trans (hbel'.mono hbelw.size)⟩
        · go_roundw
          case rel => exact ⟨k + 1, r', by omega, by go_num, rfl, hr0', hr1', step_bytes Hr2.out hr2', hbel.trans (hbel'.mono hbel.size)⟩
          case measure => simp [intOf]; omega
      · obtain rfl : k = t.bl := by omega
        clear hb'
        go_wp2
        go_ret
        exact ⟨r, rfl, hr0, hr1, Hr2.out, hbelw⟩
/-- it answers some bool -/
def AnyBool (e : Ending) : Prop := ∃ b : Bool, e = .returned (.bool b)
end Go.Proofs.Qxb6616291a
