import Derived.Test.Qxb6605359aEnc
namespace Go.Proofs.Qxb6605359a
open Go.RowKit

/-! ### zzPrefixOf (function 11), state by state -/
theorem pre0 (w : World) : Calls Try.prog 11 #[.int .i64 0] w fun e w' => e = .returned (.tuple #[.agg #[.int .i64 0, .int .i64 0, .int .i64 0, .int .i64 0], .int .i64 0]) ∧ Below w.heap.size w w' := by
  go_enter Try.func11, Try.ntmps11
  go_wp2
  refine bodyPost_ret (v := .tuple #[.agg #[.int .i64 0, .int .i64 0, .int .i64 0, .int .i64 0], .int .i64 0]) (by simp [results, Try.results11, go_sem]) rfl ⟨rfl, ?_⟩
  exact ((Below.refl _ _).alloc (Nat.le_refl _) _).alloc (by simp) _

theorem pre1 (w : World) : Calls Try.prog 11 #[.int .i64 1] w fun e w' => e = .returned (.tuple #[.agg #[.int .i64 194, .int .i64 0, .int .i64 0, .int .i64 0], .int .i64 1]) ∧ Below w.heap.size w w' := by
  go_enter Try.func11, Try.ntmps11
  go_wp2
  refine bodyPost_ret (v := .tuple #[.agg #[.int .i64 194, .int .i64 0, .int .i64 0, .int .i64 0], .int .i64 1]) (by simp [results, Try.results11, go_sem]) rfl ⟨rfl, ?_⟩
  exact ((Below.refl _ _).alloc (Nat.le_refl _) _).alloc (by simp) _

theorem pre2 (w : World) : Calls Try.prog 11 #[.int .i64 2] w fun e w' => e = .returned (.tuple #[.agg #[.int .i64 225, .int .i64 0, .int .i64 0, .int .i64 0], .int .i64 1]) ∧ Below w.heap.size w w' := by
  go_enter Try.func11, Try.ntmps11
  go_wp2
  refine bodyPost_ret (v := .tuple #[.agg #[.int .i64 225, .int .i64 0, .int .i64 0, .int .i64 0], .int .i64 1]) (by simp [results, Try.results11, go_sem]) rfl ⟨rfl, ?_⟩
  exact ((Below.refl _ _).alloc (Nat.le_refl _) _).alloc (by simp) _

theorem pre3 (w : World) : Calls Try.prog 11 #[.int .i64 3] w fun e w' => e = .returned (.tuple #[.agg #[.int .i64 224, .int .i64 0, .int .i64 0, .int .i64 0], .int .i64 1]) ∧ Below w.heap.size w w' := by
  go_enter Try.func11, Try.ntmps11
  go_wp2
  refine bodyPost_ret (v := .tuple #[.agg #[.int .i64 224, .int .i64 0, .int .i64 0, .int .i64 0], .int .i64 1]) (by simp [results, Try.results11, go_sem]) rfl ⟨rfl, ?_⟩
  exact ((Below.refl _ _).alloc (Nat.le_refl _) _).alloc (by simp) _

theorem pre4 (w : World) : Calls Try.prog 11 #[.int .i64 4] w fun e w' => e = .returned (.tuple #[.agg #[.int .i64 226, .int .i64 0, .int .i64 0, .int .i64 0], .int .i64 1]) ∧ Below w.heap.size w w' := by
  go_enter Try.func11, Try.ntmps11
  go_wp2
  refine bodyPost_ret (v := .tuple #[.agg #[.int .i64 226, .int .i64 0, .int .i64 0, .int .i64 0], .int .i64 1]) (by simp [results, Try.results11, go_sem]) rfl ⟨rfl, ?_⟩
  exact ((Below.refl _ _).alloc (Nat.le_refl _) _).alloc (by simp) _

theorem pre5 (w : World) : Calls Try.prog 11 #[.int .i64 5] w fun e w' => e = .returned (.tuple #[.agg #[.int .i64 237, .int .i64 0, .int .i64 0, .int .i64 0], .int .i64 1]) ∧ Below w.heap.size w w' := by
  go_enter Try.func11, Try.ntmps11
  go_wp2
  refine bodyPost_ret (v := .tuple #[.agg #[.int .i64 237, .int .i64 0, .int .i64 0, .int .i64 0], .int .i64 1]) (by simp [results, Try.results11, go_sem]) rfl ⟨rfl, ?_⟩
  exact ((Below.refl _ _).alloc (Nat.le_refl _) _).alloc (by simp) _

theorem pre6 (w : World) : Calls Try.prog 11 #[.int .i64 6] w fun e w' => e = .returned (.tuple #[.agg #[.int .i64 225, .int .i64 128, .int .i64 0, .int .i64 0], .int .i64 2]) ∧ Below w.heap.size w w' := by
  go_enter Try.func11, Try.ntmps11
  go_wp2
  refine bodyPost_ret (v := .tuple #[.agg #[.int .i64 225, .int .i64 128, .int .i64 0, .int .i64 0], .int .i64 2]) (by simp [results, Try.results11, go_sem]) rfl ⟨rfl, ?_⟩
  exact ((Below.refl _ _).alloc (Nat.le_refl _) _).alloc (by simp) _

theorem pre7 (w : World) : Calls Try.prog 11 #[.int .i64 7] w fun e w' => e = .returned (.tuple #[.agg #[.int .i64 226, .int .i64 128, .int .i64 0, .int .i64 0], .int .i64 2]) ∧ Below w.heap.size w w' := by
  go_enter Try.func11, Try.ntmps11
  go_wp2
  refine bodyPost_ret (v := .tuple #[.agg #[.int .i64 226, .int .i64 128, .int .i64 0, .int .i64 0], .int .i64 2]) (by simp [results, Try.results11, go_sem]) rfl ⟨rfl, ?_⟩
  exact ((Below.refl _ _).alloc (Nat.le_refl _) _).alloc (by simp) _

theorem pre8 (w : World) : Calls Try.prog 11 #[.int .i64 8] w fun e w' => e = .returned (.tuple #[.agg #[.int .i64 241, .int .i64 0, .int .i64 0, .int .i64 0], .int .i64 1]) ∧ Below w.heap.size w w' := by
  go_enter Try.func11, Try.ntmps11
  go_wp2
  refine bodyPost_ret (v := .tuple #[.agg #[.int .i64 241, .int .i64 0, .int .i64 0, .int .i64 0], .int .i64 1]) (by simp [results, Try.results11, go_sem]) rfl ⟨rfl, ?_⟩
  exact ((Below.refl _ _).alloc (Nat.le_refl _) _).alloc (by simp) _

theorem pre9 (w : World) : Calls Try.prog 11 #[.int .i64 9] w fun e w' => e = .returned (.tuple #[.agg #[.int .i64 240, .int .i64 0, .int .i64 0, .int .i64 0], .int .i64 1]) ∧ Below w.heap.size w w' := by
  go_enter Try.func11, Try.ntmps11
  go_wp2
  refine bodyPost_ret (v := .tuple #[.agg #[.int .i64 240, .int .i64 0, .int .i64 0, .int .i64 0], .int .i64 1]) (by simp [results, Try.results11, go_sem]) rfl ⟨rfl, ?_⟩
  exact ((Below.refl _ _).alloc (Nat.le_refl _) _).alloc (by simp) _

theorem pre10 (w : World) : Calls Try.prog 11 #[.int .i64 10] w fun e w' => e = .returned (.tuple #[.agg #[.int .i64 244, .int .i64 0, .int .i64 0, .int .i64 0], .int .i64 1]) ∧ Below w.heap.size w w' := by
  go_enter Try.func11, Try.ntmps11
  go_wp2
  refine bodyPost_ret (v := .tuple #[.agg #[.int .i64 244, .int .i64 0, .int .i64 0, .int .i64 0], .int .i64 1]) (by simp [results, Try.results11, go_sem]) rfl ⟨rfl, ?_⟩
  exact ((Below.refl _ _).alloc (Nat.le_refl _) _).alloc (by simp) _

theorem pre11 (w : World) : Calls Try.prog 11 #[.int .i64 11] w fun e w' => e = .returned (.tuple #[.agg #[.int .i64 241, .int .i64 128, .int .i64 0, .int .i64 0], .int .i64 2]) ∧ Below w.heap.size w w' := by
  go_enter Try.func11, Try.ntmps11
  go_wp2
  refine bodyPost_ret (v := .tuple #[.agg #[.int .i64 241, .int .i64 128, .int .i64 0, .int .i64 0], .int .i64 2]) (by simp [results, Try.results11, go_sem]) rfl ⟨rfl, ?_⟩
  exact ((Below.refl _ _).alloc (Nat.le_refl _) _).alloc (by simp) _

theorem pre12 (w : World) : Calls Try.prog 11 #[.int .i64 12] w fun e w' => e = .returned (.tuple #[.agg #[.int .i64 241, .int .i64 128, .int .i64 128, .int .i64 0], .int .i64 3]) ∧ Below w.heap.size w w' := by
  go_enter Try.func11, Try.ntmps11
  go_wp2
  refine bodyPost_ret (v := .tuple #[.agg #[.int .i64 241, .int .i64 128, .int .i64 128, .int .i64 0], .int .i64 3]) (by simp [results, Try.results11, go_sem]) rfl ⟨rfl, ?_⟩
  exact ((Below.refl _ _).alloc (Nat.le_refl _) _).alloc (by simp) _

end Go.Proofs.Qxb6605359a
