import Derived.Test.Qxb6605359aRows
import Derived.WalkKit
import Derived.WalkSpells
import Derived.WalkLawsBesides
namespace Go.Proofs.Qxb6605359a
open Go.RowKit

/-- The state that 'starting' leaves. -/
def stTo (k : Int) : Int :=
  if k = 0 then 38 else if k = 17 then 38 else if k = 1 then 18 else if k = 2 then 15 else if k = 3 then 1 else if k = 5 then 5 else if k = 6 then 6 else if k = 11 then 9 else if k = 12 then 10 else if k = 13 then 11 else if k = 14 then 12 else if k = 15 then 13 else if k = 16 then 14 else 0
/-- The pieces that it counts. -/
def stPc (k : Int) : Int :=
  if k = 0 then 1 else if k = 17 then 1 else if k = 1 then 1 else if k = 2 then 1 else if k = 5 then 1 else if k = 6 then 1 else if k = 16 then 1 else 0
theorem stPc_bd (k : Int) : 0 ≤ stPc k ∧ stPc k ≤ 1 := by
  unfold stPc
  repeat' split
  all_goals omega

set_option maxHeartbeats 1000000 in
theorem starting_calls (k : Int) (w : World) : Calls Try.prog 24 #[.int .i64 k] w fun e w' => e = .returned (.tuple #[.int .i64 (stTo k), .int .i64 (stPc k)]) ∧ w' = w := by
  by_cases h : k = 0 ∨ k = 17 ∨ k = 1 ∨ k = 2 ∨ k = 3 ∨ k = 5 ∨ k = 6 ∨ k = 11 ∨ k = 12 ∨ k = 13 ∨ k = 14 ∨ k = 15 ∨ k = 16
  · rcases h with rfl | rfl | rfl | rfl | rfl | rfl | rfl | rfl | rfl | rfl | rfl | rfl | rfl
    all_goals
      go_enter Try.func24, Try.ntmps24
      go_wp2
      go_ret2
      exact ⟨rfl, rfl⟩
  · have e1 : stTo k = 0 := by
      unfold stTo
      repeat rw [if_neg (by omega)]
    have e2 : stPc k = 0 := by
      unfold stPc
      repeat rw [if_neg (by omega)]
    rw [e1, e2]
    clear e1 e2
    have t0 : (k == 0) = false := by simp; omega
    have t1 : (k == 17) = false := by simp; omega
    have t2 : (k == 1) = false := by simp; omega
    have t3 : (k == 2) = false := by simp; omega
    have t4 : (k == 3) = false := by simp; omega
    have t5 : (k == 5) = false := by simp; omega
    have t6 : (k == 6) = false := by simp; omega
    have t7 : (k == 11) = false := by simp; omega
    have t8 : (k == 12) = false := by simp; omega
    have t9 : (k == 13) = false := by simp; omega
    have ta : (k == 14) = false := by simp; omega
    have tb : (k == 15) = false := by simp; omega
    have tc : (k == 16) = false := by simp; omega
    clear h
    go_enter Try.func24, Try.ntmps24
    go_wp2
    go_ret2
    exact ⟨rfl, rfl⟩

set_option maxHeartbeats 1000000 in
theorem after_else (f k : Int) (w : World) (h : f = 1 ∨ f = 2 ∨ f = 3 ∨ f = 4) (t0 : (k == 3) = false) (t1 : (k == 5) = false) (t2 : (k == 6) = false) (t3 : (k == 20) = false) (t4 : (k == 2) = false) (t5 : (k == 16) = false) :
    Calls Try.prog 15 #[.int .i64 f, .int .i64 k] w fun e w' => e = .returned (.tuple #[.int .i64 (stTo k), .int .i64 ((if f = 2 ∨ f = 4 then 1 else 0) + stPc k)]) ∧ w' = w := by
  obtain ⟨b1, b2⟩ := stPc_bd k
  rcases h with rfl | rfl | rfl | rfl
  all_goals
    go_enter Try.func15, Try.ntmps15
    go_wp2_with (first | (go_at_call 24; refine (starting_calls _ _).mono ?_; rintro e w' ⟨rfl, rfl⟩) | go_in)
    go_ret2
    exact ⟨by simp, rfl⟩

theorem after_three (f g : Int) (w : World) (h : (f = 1 ∧ g = 2) ∨ (f = 2 ∧ g = 2) ∨ (f = 3 ∧ g = 4) ∨ (f = 4 ∧ g = 4)) :
    Calls Try.prog 15 #[.int .i64 f, .int .i64 3] w fun e w' => e = .returned (.tuple #[.int .i64 g, .int .i64 0]) ∧ w' = w := by
  rcases h with ⟨rfl, rfl⟩ | ⟨rfl, rfl⟩ | ⟨rfl, rfl⟩ | ⟨rfl, rfl⟩
  all_goals
    go_enter Try.func15, Try.ntmps15
    go_wp2
    go_ret2
    exact ⟨rfl, rfl⟩

set_option maxHeartbeats 4000000 in
theorem spaces_walk (a0 : Int) (a1 : Int) (w : World) :
    Calls Try.prog 6 #[.int .i64 a0, .int .i64 a1] w fun e w' => e = .returned (.bool true) ∧ Grown w w' := by
  by_cases h : a0 = 1 ∨ a0 = 2 ∨ a0 = 3 ∨ a0 = 4
  · by_cases hk : a1 = 3 ∨ a1 = 5 ∨ a1 = 6 ∨ a1 = 20 ∨ a1 = 2 ∨ a1 = 16
    · rcases h with rfl | rfl | rfl | rfl
      all_goals
        rcases hk with rfl | rfl | rfl | rfl | rfl | rfl
        all_goals
          go_enter Try.func6, Try.ntmps6
          go_wp2
          go_ret
          exact ⟨rfl, Grown.refl _⟩
    · have t0 : (a1 == 3) = false := by simp; omega
      have t1 : (a1 == 5) = false := by simp; omega
      have t2 : (a1 == 6) = false := by simp; omega
      have t3 : (a1 == 20) = false := by simp; omega
      have t4 : (a1 == 2) = false := by simp; omega
      have t5 : (a1 == 16) = false := by simp; omega
      have n0 : (a1 != 3) = true := by rw [bne_iff_ne]; omega
      have n1 : (a1 != 5) = true := by rw [bne_iff_ne]; omega
      have n3 : (a1 != 20) = true := by rw [bne_iff_ne]; omega
      have n4 : (1 + stPc a1 == stPc a1 + 1) = true := by rw [beq_iff_eq]; omega
      clear hk
      obtain ⟨b1, b2⟩ := stPc_bd a1
      rcases h with rfl | rfl | rfl | rfl
      · go_enter Try.func6, Try.ntmps6
        go_wp2_with fail
        refine (after_three 1 2 _ (by omega)).mono ?_
        rintro e w' ⟨rfl, hw⟩
        rw [hw]
        clear hw w'
        go_wp2_with fail
        refine (after_else 1 a1 _ (by omega) t0 t1 t2 t3 t4 t5).mono ?_
        rintro e w' ⟨rfl, hw⟩
        rw [hw]
        clear hw w'
        go_wp2_with fail
        refine (after_else 2 a1 _ (by omega) t0 t1 t2 t3 t4 t5).mono ?_
        rintro e w' ⟨rfl, hw⟩
        rw [hw]
        clear hw w'
        simp only []
        go_wp2
        go_ret
        exact ⟨rfl, Grown.refl _⟩
      · go_enter Try.func6, Try.ntmps6
        go_wp2_with fail
        refine (after_three 2 2 _ (by omega)).mono ?_
        rintro e w' ⟨rfl, hw⟩
        rw [hw]
        clear hw w'
        go_wp2_with fail
        refine (after_else 2 a1 _ (by omega) t0 t1 t2 t3 t4 t5).mono ?_
        rintro e w' ⟨rfl, hw⟩
        rw [hw]
        clear hw w'
        go_wp2_with fail
        refine (after_else 2 a1 _ (by omega) t0 t1 t2 t3 t4 t5).mono ?_
        rintro e w' ⟨rfl, hw⟩
        rw [hw]
        clear hw w'
        simp only []
        go_wp2
        go_ret
        exact ⟨rfl, Grown.refl _⟩
      · go_enter Try.func6, Try.ntmps6
        go_wp2_with fail
        refine (after_three 3 4 _ (by omega)).mono ?_
        rintro e w' ⟨rfl, hw⟩
        rw [hw]
        clear hw w'
        go_wp2_with fail
        refine (after_else 3 a1 _ (by omega) t0 t1 t2 t3 t4 t5).mono ?_
        rintro e w' ⟨rfl, hw⟩
        rw [hw]
        clear hw w'
        go_wp2_with fail
        refine (after_else 4 a1 _ (by omega) t0 t1 t2 t3 t4 t5).mono ?_
        rintro e w' ⟨rfl, hw⟩
        rw [hw]
        clear hw w'
        simp only []
        go_wp2
        go_ret
        exact ⟨rfl, Grown.refl _⟩
      · go_enter Try.func6, Try.ntmps6
        go_wp2_with fail
        refine (after_three 4 4 _ (by omega)).mono ?_
        rintro e w' ⟨rfl, hw⟩
        rw [hw]
        clear hw w'
        go_wp2_with fail
        refine (after_else 4 a1 _ (by omega) t0 t1 t2 t3 t4 t5).mono ?_
        rintro e w' ⟨rfl, hw⟩
        rw [hw]
        clear hw w'
        go_wp2_with fail
        refine (after_else 4 a1 _ (by omega) t0 t1 t2 t3 t4 t5).mono ?_
        rintro e w' ⟨rfl, hw⟩
        rw [hw]
        clear hw w'
        simp only []
        go_wp2
        go_ret
        exact ⟨rfl, Grown.refl _⟩
  · have t0 : (a0 == 1) = false := by simp; omega
    have t1 : (a0 == 2) = false := by simp; omega
    have t2 : (a0 == 3) = false := by simp; omega
    have t3 : (a0 == 4) = false := by simp; omega
    clear h
    go_enter Try.func6, Try.ntmps6
    go_wp2
    go_ret
    exact ⟨rfl, Grown.refl _⟩

end Go.Proofs.Qxb6605359a
