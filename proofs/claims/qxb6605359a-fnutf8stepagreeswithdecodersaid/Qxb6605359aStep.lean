import Derived.Test.Qxb6605359aForm
namespace Go.Proofs.Qxb6605359a
open Go.RowKit

/-! ### goesOn (function 16) -/
def goTo (o f : Int) : Int :=
  if f < 1 ∨ 5 < f then 0 else if o = 1 ∨ o = 6 ∨ o = 7 ∨ o = 12 then 0 else if o = 2 then 6 else if o = 3 then 6 else if o = 4 then (if f = 1 then 7 else 6) else if o = 5 then 6 else if o = 8 then 11 else if o = 9 then 11 else if o = 10 then 11 else if o = 11 then 12 else 0
def goOk (o f : Int) : Bool :=
  if f < 1 ∨ 5 < f then false else if o = 1 ∨ o = 6 ∨ o = 7 ∨ o = 12 then true else if o = 2 then true else if o = 3 then decide (4 ≤ f) else if o = 4 then true else if o = 5 then decide (f ≤ 3) else if o = 8 then true else if o = 9 then decide (3 ≤ f) else if o = 10 then decide (f ≤ 2) else if o = 11 then true else false

theorem goTo_in {o f : Int} (h : 1 ≤ f ∧ f ≤ 5) : goTo o f = if o = 1 ∨ o = 6 ∨ o = 7 ∨ o = 12 then 0 else if o = 2 then 6 else if o = 3 then 6 else if o = 4 then (if f = 1 then 7 else 6) else if o = 5 then 6 else if o = 8 then 11 else if o = 9 then 11 else if o = 10 then 11 else if o = 11 then 12 else 0 := by
  unfold goTo; rw [if_neg (by omega)]
theorem goOk_in {o f : Int} (h : 1 ≤ f ∧ f ≤ 5) : goOk o f = if o = 1 ∨ o = 6 ∨ o = 7 ∨ o = 12 then true else if o = 2 then true else if o = 3 then decide (4 ≤ f) else if o = 4 then true else if o = 5 then decide (f ≤ 3) else if o = 8 then true else if o = 9 then decide (3 ≤ f) else if o = 10 then decide (f ≤ 2) else if o = 11 then true else false := by
  unfold goOk; rw [if_neg (by omega)]
theorem goTo_out {o f : Int} (h : f < 1 ∨ 5 < f) : goTo o f = 0 := by unfold goTo; rw [if_pos h]
theorem goOk_out {o f : Int} (h : f < 1 ∨ 5 < f) : goOk o f = false := by unfold goOk; rw [if_pos h]

theorem upto12 {o : Int} (h0 : 0 ≤ o) (h1 : o ≤ 12) : o = 0 ∨ o = 1 ∨ o = 2 ∨ o = 3 ∨ o = 4 ∨ o = 5 ∨ o = 6 ∨ o = 7 ∨ o = 8 ∨ o = 9 ∨ o = 10 ∨ o = 11 ∨ o = 12 := by omega

theorem ret2 {a a' : Value} {b b' : Value} (h1 : a = a') (h2 : b = b') : Ending.returned (.tuple #[a, b]) = .returned (.tuple #[a', b']) := by rw [h1, h2]

set_option maxHeartbeats 1000000 in
theorem goes_calls (o f : Int) (w : World) (h0 : 0 ≤ o) (h1 : o ≤ 12) : Calls Try.prog 16 #[.int .i64 o, .int .i64 f] w fun e w' => e = .returned (.tuple #[.int .i64 (goTo o f), .bool (goOk o f)]) ∧ w' = w := by
  by_cases hf : f < 1
  · rw [goTo_out (.inl hf), goOk_out (.inl hf)]
    go_enter Try.func16, Try.ntmps16
    go_wp2
    go_ret2
    exact ⟨rfl, rfl⟩
  by_cases hf5 : 5 < f
  · rw [goTo_out (.inr hf5), goOk_out (.inr hf5)]
    go_enter Try.func16, Try.ntmps16
    go_wp2
    go_ret2
    exact ⟨rfl, rfl⟩
  rw [goTo_in ⟨by omega, by omega⟩, goOk_in ⟨by omega, by omega⟩]
  have d1 : decide (f < 1) = false := decide_eq_false hf
  have d2 : decide (5 < f) = false := decide_eq_false hf5
  by_cases hE : o = 4
  · subst hE
    by_cases h : f = 1
    · subst h
      clear d1 d2 hf hf5
      go_enter Try.func16, Try.ntmps16
      go_wp2
      go_ret2
      exact ⟨rfl, rfl⟩
    · have t : (f == 1) = false := by simp [h]
      rw [if_neg h]
      clear h
      go_enter Try.func16, Try.ntmps16
      go_wp2
      go_ret2
      exact ⟨rfl, rfl⟩
  · rcases upto12 h0 h1 with rfl | rfl | rfl | rfl | rfl | rfl | rfl | rfl | rfl | rfl | rfl | rfl | rfl
    all_goals first
      | exact absurd rfl hE
      | (clear hE
         go_enter Try.func16, Try.ntmps16
         go_wp2
         go_ret2
         exact ⟨rfl, rfl⟩)

/-! ### openBytes (function 23) -/
def ob (o : Int) : Int := if o = 0 then 0 else if o = 6 ∨ o = 7 ∨ o = 11 then 2 else if o = 12 then 3 else 1
theorem ob_bd (o : Int) : 0 ≤ ob o ∧ ob o ≤ 3 := by unfold ob; repeat' split; all_goals omega
set_option maxHeartbeats 1000000 in
theorem ob_calls (o : Int) (w : World) (h0 : 0 ≤ o) (h1 : o ≤ 12) : Calls Try.prog 23 #[.int .i64 o] w fun e w' => e = .returned (.int .i64 (ob o)) ∧ w' = w := by
  rcases upto12 h0 h1 with rfl | rfl | rfl | rfl | rfl | rfl | rfl | rfl | rfl | rfl | rfl | rfl | rfl
  all_goals
    go_enter Try.func23, Try.ntmps23
    go_wp2
    go_ret
    exact ⟨rfl, rfl⟩

/-! ### utf8Step (function 20) -/
def frm (f : Int) : Int := if f = 0 then 0 else if f = 6 then 1 else if f = 7 then 2 else if f = 8 then 3 else if f = 9 then 4 else if f = 10 then 5 else if f = 11 then 8 else if f = 12 then 9 else if f = 13 then 10 else 0
def more (f : Int) : Int := if f = 0 ∨ (6 ≤ f ∧ f ≤ 13) then 0 else 5
def usTo (o f : Int) : Int := if goOk o f = true then goTo o f else frm f
def usEx (o f : Int) : Int := if goOk o f = true then (if o = 7 ∧ f = 5 then 3 else 0) else ob o * 5 + more f

set_option maxHeartbeats 2000000 in
theorem step_calls (o f : Int) (w : World) (h0 : 0 ≤ o) (h1 : o ≤ 12) : Calls Try.prog 20 #[.int .i64 o, .int .i64 f] w fun e w' => e = .returned (.tuple #[.int .i64 (usTo o f), .int .i64 (usEx o f)]) ∧ w' = w := by
  cases hk : goOk o f
  · -- it does not go on
    have e1 : usTo o f = frm f := by unfold usTo; rw [if_neg (by simp [hk])]
    have e2 : usEx o f = ob o * 5 + more f := by unfold usEx; rw [if_neg (by simp [hk])]
    rw [e1, e2]
    clear e1 e2
    obtain ⟨b0, b1⟩ := ob_bd o
    have HK : Hid (goOk o f = false) := hk
    clear hk
    by_cases hf : f = 0 ∨ f = 6 ∨ f = 7 ∨ f = 8 ∨ f = 9 ∨ f = 10 ∨ f = 11 ∨ f = 12 ∨ f = 13
    · have em : more f = 0 := by unfold more; rw [if_pos (by omega)]
      rw [em]
      clear em
      rcases hf with rfl | rfl | rfl | rfl | rfl | rfl | rfl | rfl | rfl
      all_goals
        go_enter Try.func20, Try.ntmps20
        go_wp2_with fail
        refine (goes_calls _ _ _ h0 h1).mono ?_
        rintro e w' ⟨rfl, hw⟩
        rw [hw, HK.out]
        clear hw w'
        go_wp2_with fail
        refine (ob_calls _ _ h0 h1).mono ?_
        rintro e w' ⟨rfl, hw⟩
        rw [hw]
        clear hw w'
        go_wp2
        go_ret2
        exact ⟨ret2 rfl (by rw [Int.add_zero]; rfl), rfl⟩
    · have em : more f = 5 := by unfold more; rw [if_neg (by omega)]
      have ef : frm f = 0 := by unfold frm; repeat rw [if_neg (by omega)]
      rw [em, ef]
      clear em ef
      have t0 : (f == 0) = false := by simp; omega
      have t1 : (f == 6) = false := by simp; omega
      have t2 : (f == 7) = false := by simp; omega
      have t3 : (f == 8) = false := by simp; omega
      have t4 : (f == 9) = false := by simp; omega
      have t5 : (f == 10) = false := by simp; omega
      have t6 : (f == 11) = false := by simp; omega
      have t7 : (f == 12) = false := by simp; omega
      have t8 : (f == 13) = false := by simp; omega
      clear hf
      go_enter Try.func20, Try.ntmps20
      go_wp2_with fail
      refine (goes_calls _ _ _ h0 h1).mono ?_
      rintro e w' ⟨rfl, hw⟩
      rw [hw, HK.out]
      clear hw w'
      go_wp2_with fail
      refine (ob_calls _ _ h0 h1).mono ?_
      rintro e w' ⟨rfl, hw⟩
      rw [hw]
      clear hw w'
      go_wp2
      go_ret2
      exact ⟨ret2 rfl (by go_num), rfl⟩
  · -- it goes on
    have e1 : usTo o f = goTo o f := by unfold usTo; rw [if_pos hk]
    have e2 : usEx o f = if o = 7 ∧ f = 5 then 3 else 0 := by unfold usEx; rw [if_pos hk]
    rw [e1, e2]
    clear e1 e2
    have HK : Hid (goOk o f = true) := hk
    clear hk
    by_cases ho : o = 7
    · by_cases hf : f = 5
      · rw [if_pos ⟨ho, hf⟩]
        subst ho; subst hf
        go_enter Try.func20, Try.ntmps20
        go_wp2_with fail
        refine (goes_calls _ _ _ h0 h1).mono ?_
        rintro e w' ⟨rfl, hw⟩
        rw [hw, HK.out]
        clear hw w'
        go_wp2
        go_ret2
        exact ⟨rfl, rfl⟩
      · rw [if_neg (fun h => hf h.2)]
        subst ho
        have t : (f == 5) = false := by simp [hf]
        clear hf
        go_enter Try.func20, Try.ntmps20
        go_wp2_with fail
        refine (goes_calls _ _ _ h0 h1).mono ?_
        rintro e w' ⟨rfl, hw⟩
        rw [hw, HK.out]
        clear hw w'
        go_wp2
        go_ret2
        exact ⟨rfl, rfl⟩
    · rw [if_neg (fun h => ho h.1)]
      have t : (o == 7) = false := by simp [ho]
      clear ho
      go_enter Try.func20, Try.ntmps20
      go_wp2_with fail
      refine (goes_calls _ _ _ h0 h1).mono ?_
      rintro e w' ⟨rfl, hw⟩
      rw [hw, HK.out]
      clear hw w'
      go_wp2
      go_ret2
      exact ⟨rfl, rfl⟩

theorem zzstep_calls (o f : Int) (w : World) (h0 : 0 ≤ o) (h1 : o ≤ 12) : Calls Try.prog 10 #[.int .i64 o, .int .i64 f] w fun e w' => e = .returned (.tuple #[.int .i64 (usTo o f), .int .i64 (usEx o f)]) ∧ w' = w := by
  go_enter Try.func10, Try.ntmps10
  go_wp2_with fail
  refine (step_calls _ _ _ h0 h1).mono ?_
  rintro e w' ⟨rfl, hw⟩
  rw [hw]
  clear hw w'
  go_wp2
  go_ret2
  exact ⟨rfl, rfl⟩

theorem zzgoes_calls (o f : Int) (w : World) (h0 : 0 ≤ o) (h1 : o ≤ 12) : Calls Try.prog 7 #[.int .i64 o, .int .i64 f] w fun e w' => e = .returned (.tuple #[.int .i64 (goTo o f), .bool (goOk o f)]) ∧ w' = w := by
  go_enter Try.func7, Try.ntmps7
  go_wp2_with fail
  refine (goes_calls _ _ _ h0 h1).mono ?_
  rintro e w' ⟨rfl, hw⟩
  rw [hw]
  clear hw w'
  go_wp2
  go_ret2
  exact ⟨rfl, rfl⟩
end Go.Proofs.Qxb6605359a
