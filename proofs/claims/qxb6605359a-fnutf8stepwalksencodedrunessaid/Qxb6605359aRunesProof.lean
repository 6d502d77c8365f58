/-
  'Rows.FnUTF8StepWalksEncodedRunesSaid', PROVED. The frame is the seat's shell; the walk's end is said by 'Below'.
-/
import Derived.Test.Qxb6605359aRows
import Derived.WalkKit
import Derived.ProofKit
import Derived.OpenShut
import Derived.ShutString
import Derived.Test.Qxb6605359aRunesLaw
namespace Go.Proofs.Qxb6605359a.fnUTF8StepWalksEncodedRunes
open Go.ChangeShapes Go.WideShapes Go.ChangeAt Go.RowKit
open Go.ChangeMaps (open_string shut_string)
set_option linter.unusedVariables false

theorem own : ownKnob Try.prog.godebug = none := by kernel_rfl

theorem walk (a0 : Int) (w0 : (Lit.int .i32 a0).wf = true) (w : World) :
    Calls Try.prog 5 #[.int .i32 a0] w fun e w' => e = .returned (.bool true) ∧ Below w.heap.size w w' := by
  by_cases hneg : a0 < 0
  · have d1 : decide (a0 < 0) = true := decide_eq_true hneg
    go_enter Try.func5, Try.ntmps5
    go_wp2
    go_ret
    exact ⟨rfl, Below.refl _ _⟩
  by_cases hbig : 2097151 < a0
  · have d1 : decide (a0 < 0) = false := decide_eq_false hneg
    have d2 : decide (2097151 < a0) = true := decide_eq_true hbig
    go_enter Try.func5, Try.ntmps5
    go_wp2
    go_ret
    exact ⟨rfl, Below.refl _ _⟩
  have hc0 : 0 ≤ a0 := by omega
  have hc1 : a0 ≤ 2097151 := by omega
  by_cases n1 : a0 < 128
  · obtain ⟨⟨f1, f2⟩, f3, f4⟩ := law1 a0 n1
    exact runes_low a0 1 _ _ _ _ w hc0 hc1 (by omega) (fun w => enc1 a0 w n1) (by omega) f1 (by rw [if_neg (by omega)]; exact f2) f3 f4
  by_cases n2 : a0 < 2048
  · obtain ⟨⟨f1, f2⟩, f3, f4⟩ := law2 (192 + a0 / 64) (128 + a0 % 64) (by omega) (by omega) (by omega) (by omega)
    exact runes_low a0 2 _ _ _ _ w hc0 hc1 (by omega) (fun w => enc2 a0 w (by omega) n2) (by omega) f1 (by rw [if_neg (by omega)]; exact f2) f3 f4
  by_cases n3 : a0 < 65536
  · by_cases hs : 55296 ≤ a0 ∧ a0 ≤ 57343
    · have e0 : 224 + a0 / 4096 = 237 := by omega
      obtain ⟨f1, f2⟩ := law3s (128 + a0 / 64 % 64) (128 + a0 % 64) (by omega) (by omega) (by omega) (by omega)
      exact runes_sur a0 3 _ _ _ _ w hc0 hc1 (by omega) (fun w => by have := enc3 a0 w (by omega) n3; rw [e0] at this; exact this) hs.1 hs.2 f1 f2
    · obtain ⟨⟨f1, f2⟩, f3, f4⟩ := law3 (224 + a0 / 4096) (128 + a0 / 64 % 64) (128 + a0 % 64) (by omega) (by omega) (by omega) (by omega) (by omega) (by omega) (by omega) (by omega)
      have e : (if 224 + a0 / 4096 = 226 ∧ 128 + a0 / 64 % 64 = 128 ∧ (128 + a0 % 64 = 168 ∨ 128 + a0 % 64 = 169) then (3 : Int) else 0) = if a0 = 8232 ∨ a0 = 8233 then 3 else 0 := by
        by_cases h : a0 = 8232 ∨ a0 = 8233
        · rw [if_pos h, if_pos (by omega)]
        · rw [if_neg h, if_neg (by omega)]
      rw [e] at f2
      by_cases hl : a0 < 55296
      · exact runes_low a0 3 _ _ _ _ w hc0 hc1 (by omega) (fun w => enc3 a0 w (by omega) n3) hl f1 f2 f3 f4
      · exact runes_high a0 3 _ _ _ _ w hc0 hc1 (by omega) (fun w => enc3 a0 w (by omega) n3) (by omega) (by omega) f1 f2 f3 f4
  · by_cases hx : 1114111 < a0
    · obtain ⟨f1, f2⟩ := law4x (240 + a0 / 262144) (128 + a0 / 4096 % 64) (128 + a0 / 64 % 64) (128 + a0 % 64) (by omega) (by omega) (by omega) (by omega) (by omega) (by omega) (by omega) (by omega)
      exact runes_big a0 4 _ _ _ _ w hc0 hc1 (by omega) (fun w => enc4 a0 w (by omega) (by omega)) hx f1 f2
    · obtain ⟨⟨f1, f2⟩, f3, f4⟩ := law4 (240 + a0 / 262144) (128 + a0 / 4096 % 64) (128 + a0 / 64 % 64) (128 + a0 % 64) (by omega) (by omega) (by omega) (by omega) (by omega) (by omega) (by omega) (by omega) (by omega) (by omega)
      exact runes_high a0 4 _ _ _ _ w hc0 hc1 (by omega) (fun w => enc4 a0 w (by omega) (by omega)) (by omega) (by omega) f1 (by rw [if_neg (by omega)]; exact f2) f3 f4

/-! ### THE ROW's STEP: WRITTEN OUT: LEAVE IT -/
set_option maxRecDepth 100000 in
theorem lifted (os : Os) (started : os.Started) (H : Type) (enc : TypeId × Value → H) :
    ReturnsInHanded {} Try.checked os 5 .any (Rows.fnUTF8StepWalksEncodedRunesSpec.pre6 enc Try.prog Try.f5 Rows.fnUTF8StepWalksEncodedRunesRow.domain false) (Rows.fnUTF8StepWalksEncodedRunesSpec.post enc Try.prog Try.f5 false true false false) := by
  refine returnsInHanded_of_change (C := Try.checked) own started (by kernel_rfl) Try.func5
    (ChangeSpec.witness6 (enc := enc) (C := Try.checked) false ⟨#[], #[.int .i32 0], []⟩ 8 (by kernel_rfl) (by kernel_rfl) (by kernel_rfl) (by kernel_rfl)) ?_
  intro W base args ds gs before hval0 hW hcnd _
  have hval : ∀ (j : Nat) t v, Try.f5.params[j]? = some t → args[j]? = some v → Value.okWide Try.prog W .any base t v := hval0
  have hW' := hW
  obtain ⟨p, q, hA0, hV, rfl, hfz, hnd⟩ := hW
  have hA : DataW.TrodAll enc Try.prog W 0 (fun _ => true) true Try.f5.params.toList args.toList ds p := hA0
  rw [Try.params5] at hA hval
  obtain ⟨v0, vs0, d0, ds0, p0, q0, hargs, rfl, rfl, h0, r0⟩ := trodAll_cons hA
  obtain ⟨rfl, rfl, rfl⟩ := trodAll_nil r0
  obtain rfl : args = #[v0] := by cases args; simp_all
  obtain ⟨rfl, rfl⟩ := trodVars_none hV
  obtain ⟨a0, rfl, rfl, rfl, w0⟩ := open_int Try.underlying21 (hval 0 21 v0 rfl rfl) h0
  clear hA0 hval0
  refine (walk a0 w0 W).mono fun e W' ⟨he, bel⟩ => ?_
  subst he
  exact ⟨_, rfl, _, _, _, [], _, [], hW', trodAll_mk1 (shut_bool Try.underlying4 _), (trodAll_cons_mk (shut_int Try.underlying21 w0) trodAll_mk0), rfl, bel.frame _, fun h => by cases h⟩

theorem over : Rows.fnUTF8StepWalksEncodedRunesRow.holds Try.pinned (OpenSpec.ofChange Rows.fnUTF8StepWalksEncodedRunesSpec) :=
  OpenClaim.holds_of_wide 5 Try.f5 rfl rfl rfl rfl rfl rfl rfl ⟨rfl, rfl, rfl, rfl, rfl⟩ rfl rfl rfl rfl rfl (by kernel_rfl) Try.func5 (by kernel_rfl)
    (of_decide_eq_true (by kernel_rfl)) (by unfold Func.isWrapper; first | (rw [if_pos (by decide +kernel)]; kernel_rfl) | (rw [if_neg (by decide +kernel)]; exact ⟨rfl, rfl⟩))
    (fun os started H enc _ => lifted os started H enc)

/-- ████ THE STATEMENT ████ -/
theorem proved : Rows.FnUTF8StepWalksEncodedRunesSaid :=
  over
end Go.Proofs.Qxb6605359a.fnUTF8StepWalksEncodedRunes
