/-
  'Rows.FnFollowsPictureIDImpliesWrittenUnchangedSaid', PROVED. The frame is typed after the guide's shell for slices: a struct by value, opened by 'open_desc', read again by 'Below.trod', and a uint16.
-/
import Derived.Test.Qxb6600572aOpen
import Derived.Test.Qxb6600572aFolWalk
namespace Go.Proofs.Qxb6600572a.fnFollowsPictureIDImpliesWrittenUnchanged
open Go.ChangeShapes Go.WideShapes Go.ChangeAt Go.RowKit
set_option linter.unusedVariables false

set_option maxRecDepth 100000 in
theorem lifted (os : Os) (started : os.Started) (H : Type) (enc : TypeId × Value → H) :
    ReturnsInHanded {} Try.checked os 7 .any (Rows.fnFollowsPictureIDImpliesWrittenUnchangedSpec.pre6 enc Try.prog Try.f7 Rows.fnFollowsPictureIDImpliesWrittenUnchangedRow.domain false) (Rows.fnFollowsPictureIDImpliesWrittenUnchangedSpec.post enc Try.prog Try.f7 false true false false) := by
  refine returnsInHanded_of_change (C := Try.checked) ownK started (by kernel_rfl) Try.func7
    (ChangeSpec.witness6 (enc := enc) (C := Try.checked) false ⟨#[], #[.agg #[.bool false, .bool false, .int .u8 0, .bool false, .bool false, .int .u16 0, .bool false, .int .u8 0, .bool false, .int .u8 0, .bool false, .bool false, .int .u8 0], .int .u16 0], []⟩ 8 (by kernel_rfl) (by kernel_rfl) (by kernel_rfl) (by kernel_rfl)) ?_
  intro W base args ds gs before hval0 hW hcnd _
  have hval : ∀ (j : Nat) t v, Try.f7.params[j]? = some t → args[j]? = some v → Value.okWide Try.prog W .any base t v := hval0
  have hW' := hW
  obtain ⟨p, q, hA0, hV, rfl, hfz, hnd⟩ := hW
  have hA : DataW.TrodAll enc Try.prog W 0 (fun _ => true) true Try.f7.params.toList args.toList ds p := hA0
  rw [Try.params7] at hA hval
  obtain ⟨v0, vs0, d0, ds0, p0, q0, hargs, rfl, rfl, h0, r0⟩ := trodAll_cons hA
  obtain ⟨v1, vs1, d1, ds1, p1, q1, rfl, rfl, rfl, h1, r1⟩ := trodAll_cons r0
  obtain ⟨rfl, rfl, rfl⟩ := trodAll_nil r1
  obtain rfl : args = #[v0, v1] := by cases args; simp_all
  obtain ⟨rfl, rfl⟩ := trodVars_none hV
  have lt0 : ∀ x ∈ p0, x.block < W.heap.size := by obtain ⟨m, hm⟩ := h0; exact DataW.trod_lt m _ _ _ hm
  obtain ⟨nr, st, hp, lp, ht, hT, ls, hk, pt, pid, tl, tid, ky, rfl, ⟨d0a, d0b⟩, ⟨d1a, d1b⟩, _, ⟨d2a, d2b⟩, ⟨d3a, d3b⟩⟩ := open_desc (hval 0 24 v0 rfl rfl) h0
  obtain ⟨prev, rfl, rfl, rfl, w1⟩ := open_int Try.underlying22 (hval 1 22 v1 rfl rfl) h1
  obtain ⟨v0a, v0b⟩ := bounds_u16 w1
  clear hA0 hval0
  refine (fol_walk nr st hp lp ht hT ls hk pt pid tl tid ky d0a d0b d1a d1b d2a d2b d3a d3b prev v0a v0b W).mono fun e W' ⟨he, bel⟩ => ?_
  subst he
  exact ⟨_, rfl, _, _, _, [], _, [], hW', trodAll_mk1 (shut_bool Try.underlying4 _), (trodAll_cons_mk (Below.trod laidOut (by kernel_rfl) (of_decide_eq_true (by kernel_rfl)) h0 bel lt0) (trodAll_cons_mk (shut_int Try.underlying22 w1) trodAll_mk0)), rfl, bel.frame _, fun h => by cases h⟩

theorem over : Rows.fnFollowsPictureIDImpliesWrittenUnchangedRow.holds Try.pinned (OpenSpec.ofChange Rows.fnFollowsPictureIDImpliesWrittenUnchangedSpec) :=
  OpenClaim.holds_of_wide 7 Try.f7 rfl rfl rfl rfl rfl rfl rfl ⟨rfl, rfl, rfl, rfl, rfl⟩ rfl rfl rfl rfl rfl (by kernel_rfl) Try.func7 (by kernel_rfl)
    (of_decide_eq_true (by kernel_rfl)) (by unfold Func.isWrapper; first | (rw [if_pos (by decide +kernel)]; kernel_rfl) | (rw [if_neg (by decide +kernel)]; exact ⟨rfl, rfl⟩))
    (fun os started H enc _ => lifted os started H enc)

/-- ████ THE STATEMENT ████ -/
theorem proved : Rows.FnFollowsPictureIDImpliesWrittenUnchangedSaid :=
  over
end Go.Proofs.Qxb6600572a.fnFollowsPictureIDImpliesWrittenUnchanged
