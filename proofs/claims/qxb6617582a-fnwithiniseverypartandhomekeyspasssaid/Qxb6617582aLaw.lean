/- The statement 'FnWithinIsEveryPartAndHomeKeysPassSaid', out of the walk. -/
import Derived.Test.Qxb6617582aRows
import Derived.Test.Qxb6617582aMain
import Derived.Test.Qxb6617582aRead
import Derived.WalkKit
import Derived.ProofKit
import Derived.OpenShut
import Derived.ShutString
import Derived.ChangeOld
import Derived.Below
namespace Go.Proofs.Qxb6617582a.fnWithinIsEveryPartAndHomeKeysPass
open Go.ChangeShapes Go.WideShapes Go.ChangeAt Go.RowKit
open Go.ChangeMaps (open_string shut_string)
set_option linter.unusedVariables false

theorem own : ownKnob Try.prog.godebug = none := by kernel_rfl
theorem laidOut : laidOutB Try.prog = true := by kernel_rfl

set_option maxRecDepth 100000 in
theorem lifted (os : Os) (started : os.Started) (H : Type) (enc : TypeId × Value → H) :
    ReturnsInHanded {} Try.checked os 3 .any (Rows.fnWithinIsEveryPartAndHomeKeysPassSpec.pre6 enc Try.prog Try.f3 Rows.fnWithinIsEveryPartAndHomeKeysPassRow.domain false) (Rows.fnWithinIsEveryPartAndHomeKeysPassSpec.post enc Try.prog Try.f3 false true false false) := by
  refine returnsInHanded_of_change (C := Try.checked) own started (by kernel_rfl) Try.func3
    (ChangeSpec.witness6 (enc := enc) (C := Try.checked) false ⟨#[], #[.slice none 0 0, .slice none 0 0, .slice none 0 0, .slice none 0 0, .int .u64 0, .int .i64 0, .int .i64 0, .int .i64 0], []⟩ 8 (by kernel_rfl) (by kernel_rfl) (by kernel_rfl) (by kernel_rfl)) ?_
  intro W base args ds gs before hval0 hW hcnd _
  have hval : ∀ (j : Nat) t v, Try.f3.params[j]? = some t → args[j]? = some v → Value.okWide Try.prog W .any base t v := hval0
  have hW' := hW
  obtain ⟨p, q, hA0, hV, rfl, hfz, hnd⟩ := hW
  have hA : DataW.TrodAll enc Try.prog W 0 (fun _ => true) true Try.f3.params.toList args.toList ds p := hA0
  rw [Try.params3] at hA hval
  obtain ⟨v0, vs0, d0, ds0, p0, q0, hargs, rfl, rfl, h0, r0⟩ := trodAll_cons hA
  obtain ⟨v1, vs1, d1, ds1, p1, q1, rfl, rfl, rfl, h1, r1⟩ := trodAll_cons r0
  obtain ⟨v2, vs2, d2, ds2, p2, q2, rfl, rfl, rfl, h2, r2⟩ := trodAll_cons r1
  obtain ⟨v3, vs3, d3, ds3, p3, q3, rfl, rfl, rfl, h3, r3⟩ := trodAll_cons r2
  obtain ⟨v4, vs4, d4, ds4, p4, q4, rfl, rfl, rfl, h4, r4⟩ := trodAll_cons r3
  obtain ⟨v5, vs5, d5, ds5, p5, q5, rfl, rfl, rfl, h5, r5⟩ := trodAll_cons r4
  obtain ⟨v6, vs6, d6, ds6, p6, q6, rfl, rfl, rfl, h6, r6⟩ := trodAll_cons r5
  obtain ⟨v7, vs7, d7, ds7, p7, q7, rfl, rfl, rfl, h7, r7⟩ := trodAll_cons r6
  obtain ⟨rfl, rfl, rfl⟩ := trodAll_nil r7
  obtain rfl : args = #[v0, v1, v2, v3, v4, v5, v6, v7] := by cases args; simp_all
  obtain ⟨rfl, rfl⟩ := trodVars_none hV
  obtain ⟨a0, n0, c0, rfl⟩ := okWide_slice Try.underlying22 (hval 0 22 v0 rfl rfl)
  obtain ⟨a1, n1, c1, rfl⟩ := okWide_slice Try.underlying23 (hval 1 23 v1 rfl rfl)
  obtain ⟨a2, n2, c2, rfl⟩ := okWide_slice Try.underlying23 (hval 2 23 v2 rfl rfl)
  obtain ⟨a3, n3, c3, rfl⟩ := okWide_slice Try.underlying24 (hval 3 24 v3 rfl rfl)
  have k0 := h0
  have k1 := h1
  have k2 := h2
  have k3 := h3
  have lt0 : ∀ x ∈ p0, x.block < W.heap.size := by obtain ⟨m, hm⟩ := k0; exact DataW.trod_lt m _ _ _ hm
  have lt1 : ∀ x ∈ p1, x.block < W.heap.size := by obtain ⟨m, hm⟩ := k1; exact DataW.trod_lt m _ _ _ hm
  have lt2 : ∀ x ∈ p2, x.block < W.heap.size := by obtain ⟨m, hm⟩ := k2; exact DataW.trod_lt m _ _ _ hm
  have lt3 : ∀ x ∈ p3, x.block < W.heap.size := by obtain ⟨m, hm⟩ := k3; exact DataW.trod_lt m _ _ _ hm
  obtain ⟨ss, s1, s2, s3, s4, s5⟩ : ∃ ss : Nat → ByteArray, RowV W a0 n0 (fun j => .string (ss j)) ∧ n0 ≤ c0 ∧ c0 ≤ maxLen ∧ (a0 = none → c0 = 0) ∧ ∀ i, i < n0 → (ss i).size ≤ maxLen := by
    obtain ⟨fuel, hf⟩ := h0
    obtain ⟨a, n, c, ss, e, x1, x2, x3, x4, x5⟩ := strings_in (v := .slice a0 n0 c0) hf
    cases e
    exact ⟨ss, x1, x2, x3, x4, x5⟩
  obtain ⟨pp, t1, t2, t3, t4, t5⟩ : ∃ pp : Nat → Int, RowV W a1 n1 (fun j => .int .i64 (pp j)) ∧ n1 ≤ c1 ∧ c1 ≤ maxLen ∧ (a1 = none → c1 = 0) ∧ ∀ i, i < n1 → (Lit.int .i64 (pp i)).wf = true := by
    obtain ⟨fuel, hf⟩ := h1
    obtain ⟨a, n, c, ss, e, x1, x2, x3, x4, x5⟩ := ints_in (v := .slice a1 n1 c1) hf
    cases e
    exact ⟨ss, x1, x2, x3, x4, x5⟩
  obtain ⟨qq, u1, u2, u3, u4, u5⟩ : ∃ pp : Nat → Int, RowV W a2 n2 (fun j => .int .i64 (pp j)) ∧ n2 ≤ c2 ∧ c2 ≤ maxLen ∧ (a2 = none → c2 = 0) ∧ ∀ i, i < n2 → (Lit.int .i64 (pp i)).wf = true := by
    obtain ⟨fuel, hf⟩ := h2
    obtain ⟨a, n, c, ss, e, x1, x2, x3, x4, x5⟩ := ints_in (v := .slice a2 n2 c2) hf
    cases e
    exact ⟨ss, x1, x2, x3, x4, x5⟩
  obtain ⟨bs, y1, y2, y3, y4⟩ : ∃ bs : Nat → Bool, RowV W a3 n3 (fun j => .bool (bs j)) ∧ n3 ≤ c3 ∧ c3 ≤ maxLen ∧ (a3 = none → c3 = 0) := by
    obtain ⟨fuel, hf⟩ := h3
    obtain ⟨a, n, c, ss, e, x1, x2, x3, x4⟩ := bools_in (v := .slice a3 n3 c3) hf
    cases e
    exact ⟨ss, x1, x2, x3, x4⟩
  obtain ⟨b4, rfl, rfl, rfl, w4⟩ := open_int Try.underlying25 (hval 4 25 v4 rfl rfl) h4
  obtain ⟨b5, rfl, rfl, rfl, w5⟩ := open_int Try.underlying3 (hval 5 3 v5 rfl rfl) h5
  obtain ⟨b6, rfl, rfl, rfl, w6⟩ := open_int Try.underlying3 (hval 6 3 v6 rfl rfl) h6
  obtain ⟨b7, rfl, rfl, rfl, w7⟩ := open_int Try.underlying3 (hval 7 3 v7 rfl rfl) h7
  clear hA0 hval0
  refine (main_any a0 a1 a2 a3 n0 n1 n2 n3 c0 c1 c2 c3 ss pp qq bs b4 b5 b6 b7 W ⟨s1, t1, u1, y1, s2, t2, u2, y2, s3, t3, u3, y3, s4, t4, u4, y4, s5, t5, u5⟩ w5 w6).mono fun e W' ⟨he, bel⟩ => ?_
  subst he
  exact ⟨_, rfl, _, _, _, [], _, [], hW', trodAll_mk1 (shut_bool Try.underlying4 _), (trodAll_cons_mk (Below.trod laidOut (by kernel_rfl) (of_decide_eq_true (by kernel_rfl)) k0 bel lt0) (trodAll_cons_mk (Below.trod laidOut (by kernel_rfl) (of_decide_eq_true (by kernel_rfl)) k1 bel lt1) (trodAll_cons_mk (Below.trod laidOut (by kernel_rfl) (of_decide_eq_true (by kernel_rfl)) k2 bel lt2) (trodAll_cons_mk (Below.trod laidOut (by kernel_rfl) (of_decide_eq_true (by kernel_rfl)) k3 bel lt3) (trodAll_cons_mk (shut_int Try.underlying25 w4) (trodAll_cons_mk (shut_int Try.underlying3 w5) (trodAll_cons_mk (shut_int Try.underlying3 w6) (trodAll_cons_mk (shut_int Try.underlying3 w7) trodAll_mk0)))))))), rfl, bel.frame _, fun h => by cases h⟩

theorem over : Rows.fnWithinIsEveryPartAndHomeKeysPassRow.holds Try.pinned (OpenSpec.ofChange Rows.fnWithinIsEveryPartAndHomeKeysPassSpec) :=
  OpenClaim.holds_of_wide 3 Try.f3 rfl rfl rfl rfl rfl rfl rfl ⟨rfl, rfl, rfl, rfl, rfl⟩ rfl rfl rfl rfl rfl (by kernel_rfl) Try.func3 (by kernel_rfl)
    (of_decide_eq_true (by kernel_rfl)) (by unfold Func.isWrapper; first | (rw [if_pos (by decide +kernel)]; kernel_rfl) | (rw [if_neg (by decide +kernel)]; exact ⟨rfl, rfl⟩))
    (fun os started H enc _ => lifted os started H enc)

/-- THE STATEMENT -/
theorem proved : Rows.FnWithinIsEveryPartAndHomeKeysPassSaid := over
#print axioms proved
end Go.Proofs.Qxb6617582a.fnWithinIsEveryPartAndHomeKeysPass
