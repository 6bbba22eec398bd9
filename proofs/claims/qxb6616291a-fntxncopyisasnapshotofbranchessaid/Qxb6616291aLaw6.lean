/- The statement 'FnTxnCopyIsASnapshotOfBranchesSaid', out of the walk. -/
import Derived.Test.Qxb6616291aRows
import Derived.Test.Qxb6616291aRead
import Derived.Test.Qxb6616291aWalk6
import Derived.ShutString
import Derived.ChangeOld
namespace Go.Proofs.Qxb6616291a.fnTxnCopyIsASnapshotOfBranches
open Go.ChangeShapes Go.WideShapes Go.ChangeAt Go.RowKit
open Go.ChangeMaps (open_string shut_string)
set_option linter.unusedVariables false

theorem own : ownKnob Try.prog.godebug = none := by kernel_rfl
theorem laidOut : laidOutB Try.prog = true := by kernel_rfl

set_option maxRecDepth 100000 in
theorem lifted (os : Os) (started : os.Started) (H : Type) (enc : TypeId × Value → H) :
    ReturnsInHanded {} Try.checked os 6 .any (Rows.fnTxnCopyIsASnapshotOfBranchesSpec.pre6 enc Try.prog Try.f6 Rows.fnTxnCopyIsASnapshotOfBranchesRow.domain false) (Rows.fnTxnCopyIsASnapshotOfBranchesSpec.post enc Try.prog Try.f6 false true false false) := by
  refine returnsInHanded_of_change (C := Try.checked) own started (by kernel_rfl) Try.func6
    (ChangeSpec.witness6 (enc := enc) (C := Try.checked) false ⟨#[], #[.agg #[.string ⟨#[]⟩, .string ⟨#[]⟩, .pointer none, .int .i64 0, .int .i64 0, .int .i64 0, .int .u64 0, .slice none 0 0, .bool false, .int .i64 0, .slice none 0 0], .int .i64 0, .agg #[.int .i64 0, .string ⟨#[]⟩, .string ⟨#[]⟩, .string ⟨#[]⟩, .string ⟨#[]⟩, .slice none 0 0, .string ⟨#[]⟩, .string ⟨#[]⟩, .int .i64 0, .string ⟨#[]⟩]], []⟩ 8 (by kernel_rfl) (by kernel_rfl) (by kernel_rfl) (by kernel_rfl)) ?_
  intro W base args ds gs before hval0 hW hcnd _
  have hval : ∀ (j : Nat) t v, Try.f6.params[j]? = some t → args[j]? = some v → Value.okWide Try.prog W .any base t v := hval0
  have hW' := hW
  obtain ⟨p, q, hA0, hV, rfl, hfz, hnd⟩ := hW
  have hA : DataW.TrodAll enc Try.prog W 0 (fun _ => true) true Try.f6.params.toList args.toList ds p := hA0
  rw [Try.params6] at hA hval
  obtain ⟨v0, vs0, d0, ds0, p0, q0, hargs, rfl, rfl, h0, r0⟩ := trodAll_cons hA
  obtain ⟨v1, vs1, d1, ds1, p1, q1, rfl, rfl, rfl, h1, r1⟩ := trodAll_cons r0
  obtain ⟨v2, vs2, d2, ds2, p2, q2, rfl, rfl, rfl, h2, r2⟩ := trodAll_cons r1
  obtain ⟨rfl, rfl, rfl⟩ := trodAll_nil r2
  obtain rfl : args = #[v0, v1, v2] := by cases args; simp_all
  obtain ⟨rfl, rfl⟩ := trodVars_none hV
  have k0 := h0
  have lt0 : ∀ x ∈ p0, x.block < W.heap.size := by obtain ⟨m, hm⟩ := k0; exact DataW.trod_lt m _ _ _ hm
  have k2 := h2
  have lt2 : ∀ x ∈ p2, x.block < W.heap.size := by obtain ⟨m, hm⟩ := k2; exact DataW.trod_lt m _ _ _ hm
  obtain ⟨a1, rfl, rfl, rfl, w1⟩ := open_int Try.underlying3 (hval 1 3 v1 rfl rfl) h1
  obtain ⟨t, ht, hok⟩ : ∃ t : Tx, t.val = v0 ∧ t.Ok W := by
    obtain ⟨cs, rfl, _⟩ := okWide_struct Try.underlying50 (hval 0 50 v0 rfl rfl)
    obtain ⟨m, hm⟩ := h0
    obtain ⟨t, h, hok⟩ := txn_of hm
    exact ⟨t, by rw [h]; simp [Value.cells], hok⟩
  obtain ⟨r, hr, hrok⟩ : ∃ r : Br, .agg r.vals = v2 ∧ r.Ok W := by
    obtain ⟨cs, rfl, _⟩ := okWide_struct Try.underlying62 (hval 2 62 v2 rfl rfl)
    obtain ⟨m, hm⟩ := h2
    obtain ⟨r, h, hok⟩ := branch_of hm
    exact ⟨r, by have : cs = r.vals := by simpa [Value.cells] using congrArg List.toArray h
                 rw [this], hok⟩
  clear hA0 hval0
  have hwalk := walk6 t a1 r W hok hrok (bounds_i64 w1)
  rw [ht, hr] at hwalk
  refine hwalk.mono fun e W' ⟨he, bel⟩ => ?_
  subst he
  exact ⟨_, rfl, _, _, _, [], _, [], hW', trodAll_mk1 (shut_bool Try.underlying4 _), (trodAll_cons_mk (Below.trod laidOut (by kernel_rfl) (of_decide_eq_true (by kernel_rfl)) k0 bel lt0) (trodAll_cons_mk (shut_int Try.underlying3 w1) (trodAll_cons_mk (Below.trod laidOut (by kernel_rfl) (of_decide_eq_true (by kernel_rfl)) k2 bel lt2) trodAll_mk0))), rfl, bel.frame _, fun h => by cases h⟩

theorem over : Rows.fnTxnCopyIsASnapshotOfBranchesRow.holds Try.pinned (OpenSpec.ofChange Rows.fnTxnCopyIsASnapshotOfBranchesSpec) :=
  OpenClaim.holds_of_wide 6 Try.f6 rfl rfl rfl rfl rfl rfl rfl ⟨rfl, rfl, rfl, rfl, rfl⟩ rfl rfl rfl rfl rfl (by kernel_rfl) Try.func6 (by kernel_rfl)
    (of_decide_eq_true (by kernel_rfl)) (by unfold Func.isWrapper; first | (rw [if_pos (by decide +kernel)]; kernel_rfl) | (rw [if_neg (by decide +kernel)]; exact ⟨rfl, rfl⟩))
    (fun os started H enc _ => lifted os started H enc)

theorem proved : Rows.FnTxnCopyIsASnapshotOfBranchesSaid := over
end Go.Proofs.Qxb6616291a.fnTxnCopyIsASnapshotOfBranches
