import Derived.Test.Qxb6605359aRunesWalk
import Derived.Deep.QuietTactic
import Derived.BigQuiet
namespace Go.Proofs.Qxb6605359a
open Go.RowKit

/-! ### zzSeqLen (function 19) -/
def sl (c : Int) : Int := if 194 ≤ c ∧ c ≤ 223 then 2 else if 224 ≤ c ∧ c ≤ 239 then 3 else if 240 ≤ c ∧ c ≤ 244 then 4 else 0
theorem sl_bd (c : Int) : 0 ≤ sl c ∧ sl c ≤ 4 := by unfold sl; repeat' split; all_goals omega
set_option maxHeartbeats 1000000 in
theorem sl_calls (c : Int) (w : World) : Calls Try.prog 19 #[.int .i64 c] w fun e w' => e = .returned (.int .i64 (sl c)) ∧ w' = w := by
  by_cases h1 : c < 194
  · have e : sl c = 0 := by unfold sl; rw [if_neg (by omega), if_neg (by omega), if_neg (by omega)]
    rw [e]; clear e
    go_enter Try.func19, Try.ntmps19
    go_wp2
    go_ret
    exact ⟨rfl, rfl⟩
  by_cases h2 : c ≤ 223
  · have e : sl c = 2 := by unfold sl; rw [if_pos (by omega)]
    rw [e]; clear e
    have g : 194 ≤ c := by omega
    go_enter Try.func19, Try.ntmps19
    go_wp2
    go_ret
    exact ⟨rfl, rfl⟩
  by_cases h3 : c ≤ 239
  · have e : sl c = 3 := by unfold sl; rw [if_neg (by omega), if_pos (by omega)]
    rw [e]; clear e
    have g : 224 ≤ c := by omega
    go_enter Try.func19, Try.ntmps19
    go_wp2
    go_ret
    exact ⟨rfl, rfl⟩
  by_cases h4 : c ≤ 244
  · have e : sl c = 4 := by unfold sl; rw [if_neg (by omega), if_neg (by omega), if_pos (by omega)]
    rw [e]; clear e
    have g : 240 ≤ c := by omega
    go_enter Try.func19, Try.ntmps19
    go_wp2
    go_ret
    exact ⟨rfl, rfl⟩
  · have e : sl c = 0 := by unfold sl; rw [if_neg (by omega), if_neg (by omega), if_neg (by omega)]
    rw [e]; clear e
    have g : 244 < c := by omega
    go_enter Try.func19, Try.ntmps19
    go_wp2
    go_ret
    exact ⟨rfl, rfl⟩

/-! ### zzRangeAt (18), zzAllowedAt (17) -/
def rlo (c j : Int) : Int := if j = 1 then (if c = 224 then 160 else if c = 240 then 144 else 128) else 128
def rhi (c j : Int) : Int := if j = 1 then (if c = 237 then 159 else if c = 244 then 143 else 191) else 191
theorem rlo_bd (c j : Int) : 128 ≤ rlo c j ∧ rlo c j ≤ 160 := by unfold rlo; repeat' split; all_goals omega
def al (c j b : Int) : Bool := decide (rlo c j ≤ b) && decide (b ≤ rhi c j)
set_option maxHeartbeats 1000000 in
theorem range_calls (c j : Int) (w : World) : Calls Try.prog 18 #[.int .i64 c, .int .i64 j] w fun e w' => e = .returned (.tuple #[.int .i64 (rlo c j), .int .i64 (rhi c j)]) ∧ w' = w := by
  by_cases hj : j = 1
  · subst hj
    by_cases hc : c = 224 ∨ c = 237 ∨ c = 240 ∨ c = 244
    · rcases hc with rfl | rfl | rfl | rfl
      all_goals
        go_enter Try.func18, Try.ntmps18
        go_wp2
        go_ret2
        exact ⟨rfl, rfl⟩
    · have e1 : rlo c 1 = 128 := by unfold rlo; rw [if_pos rfl, if_neg (by omega), if_neg (by omega)]
      have e2 : rhi c 1 = 191 := by unfold rhi; rw [if_pos rfl, if_neg (by omega), if_neg (by omega)]
      rw [e1, e2]; clear e1 e2
      have t1 : (c == 224) = false := by simp; omega
      have t2 : (c == 237) = false := by simp; omega
      have t3 : (c == 240) = false := by simp; omega
      have t4 : (c == 244) = false := by simp; omega
      clear hc
      go_enter Try.func18, Try.ntmps18
      go_wp2
      go_ret2
      exact ⟨rfl, rfl⟩
  · have e1 : rlo c j = 128 := by unfold rlo; rw [if_neg hj]
    have e2 : rhi c j = 191 := by unfold rhi; rw [if_neg hj]
    rw [e1, e2]; clear e1 e2
    have t1 : (j == 1) = false := by simp [hj]
    clear hj
    go_enter Try.func18, Try.ntmps18
    go_wp2
    go_ret2
    exact ⟨rfl, rfl⟩

set_option maxHeartbeats 1000000 in
theorem al_calls (c j b : Int) (w : World) : Calls Try.prog 17 #[.int .i64 c, .int .i64 j, .int .i64 b] w fun e w' => e = .returned (.bool (al c j b)) ∧ w' = w := by
  unfold al
  cases d1 : decide (rlo c j ≤ b)
  · go_enter Try.func17, Try.ntmps17
    go_wp2_with fail
    refine (range_calls _ _ _).mono ?_
    rintro e w' ⟨rfl, hw⟩
    rw [hw]
    clear hw w'
    go_wp2
    go_ret
    exact ⟨rfl, rfl⟩
  · cases d2 : decide (b ≤ rhi c j)
    all_goals
      go_enter Try.func17, Try.ntmps17
      go_wp2_with fail
      refine (range_calls _ _ _).mono ?_
      rintro e w' ⟨rfl, hw⟩
      rw [hw]
      clear hw w'
      go_wp2
      go_ret
      exact ⟨rfl, rfl⟩

/-! ### zzRune (function 21): its returns read the array in an open order -/
def rn2 (a b : Int) : Int := bits .or .i64 (wrap64 (bits .and .i64 a 31 * 64)) (bits .and .i64 b 63)
def rn3 (a b c : Int) : Int := bits .or .i64 (bits .or .i64 (wrap64 (bits .and .i64 a 15 * 4096)) (wrap64 (bits .and .i64 b 63 * 64))) (bits .and .i64 c 63)
def rn4 (a b c d : Int) : Int := bits .or .i64 (bits .or .i64 (bits .or .i64 (wrap64 (bits .and .i64 a 7 * 262144)) (wrap64 (bits .and .i64 b 63 * 4096))) (wrap64 (bits .and .i64 c 63 * 64))) (bits .and .i64 d 63)
def rn (s : Nat → Int) (i : Nat) (need : Int) : Int := if need = 2 then rn2 (s i) (s (i + 1)) else if need = 3 then rn3 (s i) (s (i + 1)) (s (i + 2)) else rn4 (s i) (s (i + 1)) (s (i + 2)) (s (i + 3))

theorem rune_end {v v' : Int} {w w' : World} {n : Nat} (h : v = v') (hb : Below w.heap.size w w') : Ending.returned (.int .i64 v) = .returned (.int .i64 v') ∧ Below w.heap.size w (w'.drewN n) := ⟨by rw [h], below_drewN hb n⟩

set_option maxHeartbeats 1000000 in
theorem rune_calls (s0 s1 s2 s3 : Int) (i : Nat) (need : Int) (h : (need = 2 ∧ i ≤ 2) ∨ (need = 3 ∧ i ≤ 1) ∨ (need = 4 ∧ i = 0)) (w : World) :
    Calls Try.prog 21 #[.agg #[.int .i64 s0, .int .i64 s1, .int .i64 s2, .int .i64 s3], .int .i64 i, .int .i64 need] w fun e w' => e = .returned (.int .i64 (rn (bAt s0 s1 s2 s3) i need)) ∧ Below w.heap.size w w' := by
  rcases (by omega : (need = 2 ∧ i = 0) ∨ (need = 2 ∧ i = 1) ∨ (need = 2 ∧ i = 2) ∨ (need = 3 ∧ i = 0) ∨ (need = 3 ∧ i = 1) ∨ (need = 4 ∧ i = 0)) with ⟨rfl, rfl⟩ | ⟨rfl, rfl⟩ | ⟨rfl, rfl⟩ | ⟨rfl, rfl⟩ | ⟨rfl, rfl⟩ | ⟨rfl, rfl⟩
  all_goals
    clear h
    go_enter Try.func21, Try.ntmps21
    go_wp2
    go_quiet (fail)
    go_wp2
    go_ret
    exact rune_end rfl ((Below.refl _ _).alloc (Nat.le_refl _) _)
end Go.Proofs.Qxb6605359a
