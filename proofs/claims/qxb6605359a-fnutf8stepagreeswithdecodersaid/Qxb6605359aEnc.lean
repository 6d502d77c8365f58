import Derived.Test.Qxb6605359aStep
namespace Go.Proofs.Qxb6605359a
open Go.RowKit

/-! ### the bit layout as sums -/
theorem or_sum (c m x : Int) (h : (c = 192 ∧ m = 64) ∨ (c = 224 ∧ m = 32) ∨ (c = 240 ∧ m = 16) ∨ (c = 128 ∧ m = 64)) (h0 : 0 ≤ x) (h1 : x < m) : bits .or .i64 c x = c + x := by
  have hx : x < 64 := by omega
  obtain ⟨X, rfl⟩ := Int.eq_ofNat_of_zero_le h0
  have hX : X < 64 := by omega
  have k1 : ∀ y : Fin 64, bits .or .i64 192 ((y.val : Nat) : Int) = 192 + ((y.val : Nat) : Int) := by decide +kernel
  have k2 : ∀ y : Fin 32, bits .or .i64 224 ((y.val : Nat) : Int) = 224 + ((y.val : Nat) : Int) := by decide +kernel
  have k3 : ∀ y : Fin 16, bits .or .i64 240 ((y.val : Nat) : Int) = 240 + ((y.val : Nat) : Int) := by decide +kernel
  have k4 : ∀ y : Fin 64, bits .or .i64 128 ((y.val : Nat) : Int) = 128 + ((y.val : Nat) : Int) := by decide +kernel
  rcases h with ⟨rfl, rfl⟩ | ⟨rfl, rfl⟩ | ⟨rfl, rfl⟩ | ⟨rfl, rfl⟩
  · exact k1 ⟨X, hX⟩
  · exact k2 ⟨X, by omega⟩
  · exact k3 ⟨X, by omega⟩
  · exact k4 ⟨X, hX⟩

theorem and63 (n : Int) : bits .and .i64 n 63 = n % 64 := by
  have h63 : (BitVec.ofInt 64 63).toNat = 2 ^ 6 - 1 := by decide
  have key : (BitVec.ofInt 64 n &&& BitVec.ofInt 64 63).toNat = (n % ((2 ^ 64 : Nat) : Int)).toNat % 2 ^ 6 := by
    rw [BitVec.toNat_and, BitVec.toNat_ofInt, h63, Nat.and_two_pow_sub_one_eq_mod]
  show IntKind.i64.wrap ((BitVec.ofInt 64 n &&& BitVec.ofInt 64 63).toNat : Nat) = n % 64
  rw [key, IntKind.wrap_i64]
  omega

theorem cont (x : Int) : bits .or .i64 128 (bits .and .i64 x 63) = 128 + x % 64 := by
  rw [and63 x]
  exact or_sum 128 64 _ (by omega) (by omega) (by omega)

/-! ### zzEncode (function 14), by the length -/
set_option maxHeartbeats 1000000 in
theorem enc1 (r : Int) (w : World) (h1 : r < 128) : Calls Try.prog 14 #[.int .i64 r] w fun e w' => e = .returned (.tuple #[.agg #[.int .i64 (r), .int .i64 (0), .int .i64 (0), .int .i64 (0)], .int .i64 1]) ∧ Below w.heap.size w w' := by
  go_enter Try.func14, Try.ntmps14
  go_wp2
  refine bodyPost_ret (v := .tuple #[.agg #[.int .i64 (r), .int .i64 (0), .int .i64 (0), .int .i64 (0)], .int .i64 1]) (by simp [results, Try.results14, go_sem]) rfl ⟨rfl, ?_⟩
  exact ((Below.refl _ _).alloc (Nat.le_refl _) _).alloc (by simp) _

set_option maxHeartbeats 1000000 in
theorem enc2 (r : Int) (w : World) (h0 : 128 ≤ r) (h1 : r < 2048) : Calls Try.prog 14 #[.int .i64 r] w fun e w' => e = .returned (.tuple #[.agg #[.int .i64 (192 + r / 64), .int .i64 (128 + r % 64), .int .i64 (0), .int .i64 (0)], .int .i64 2]) ∧ Below w.heap.size w w' := by
  have e0 := or_sum 192 64 (r / 64) (by omega) (by omega) (by omega)
  have e1 := cont r
  go_enter Try.func14, Try.ntmps14
  go_wp2
  refine bodyPost_ret (v := .tuple #[.agg #[.int .i64 (192 + r / 64), .int .i64 (128 + r % 64), .int .i64 (0), .int .i64 (0)], .int .i64 2]) (by simp [results, Try.results14, go_sem]) rfl ⟨rfl, ?_⟩
  exact ((Below.refl _ _).alloc (Nat.le_refl _) _).alloc (by simp) _

set_option maxHeartbeats 1000000 in
theorem enc3 (r : Int) (w : World) (h0 : 2048 ≤ r) (h1 : r < 65536) : Calls Try.prog 14 #[.int .i64 r] w fun e w' => e = .returned (.tuple #[.agg #[.int .i64 (224 + r / 4096), .int .i64 (128 + r / 64 % 64), .int .i64 (128 + r % 64), .int .i64 (0)], .int .i64 3]) ∧ Below w.heap.size w w' := by
  have e0 := or_sum 224 32 (r / 4096) (by omega) (by omega) (by omega)
  have e1 := cont (r / 64)
  have e2 := cont r
  go_enter Try.func14, Try.ntmps14
  go_wp2
  refine bodyPost_ret (v := .tuple #[.agg #[.int .i64 (224 + r / 4096), .int .i64 (128 + r / 64 % 64), .int .i64 (128 + r % 64), .int .i64 (0)], .int .i64 3]) (by simp [results, Try.results14, go_sem]) rfl ⟨rfl, ?_⟩
  exact ((Below.refl _ _).alloc (Nat.le_refl _) _).alloc (by simp) _

set_option maxHeartbeats 1000000 in
theorem enc4 (r : Int) (w : World) (h0 : 65536 ≤ r) (h1 : r < 2097152) : Calls Try.prog 14 #[.int .i64 r] w fun e w' => e = .returned (.tuple #[.agg #[.int .i64 (240 + r / 262144), .int .i64 (128 + r / 4096 % 64), .int .i64 (128 + r / 64 % 64), .int .i64 (128 + r % 64)], .int .i64 4]) ∧ Below w.heap.size w w' := by
  have e0 := or_sum 240 16 (r / 262144) (by omega) (by omega) (by omega)
  have e1 := cont (r / 4096)
  have e2 := cont (r / 64)
  have e3 := cont r
  go_enter Try.func14, Try.ntmps14
  go_wp2
  refine bodyPost_ret (v := .tuple #[.agg #[.int .i64 (240 + r / 262144), .int .i64 (128 + r / 4096 % 64), .int .i64 (128 + r / 64 % 64), .int .i64 (128 + r % 64)], .int .i64 4]) (by simp [results, Try.results14, go_sem]) rfl ⟨rfl, ?_⟩
  exact ((Below.refl _ _).alloc (Nat.le_refl _) _).alloc (by simp) _

/-! ### zzStateOf (function 13) -/
def s1 (p : Int) : Int := if 194 ≤ p ∧ p ≤ 223 then 1 else if p = 224 then 3 else if p = 226 then 4 else if p = 237 then 5 else if 225 ≤ p ∧ p ≤ 239 then 2 else if p = 240 then 9 else if p = 244 then 10 else if 241 ≤ p ∧ p ≤ 243 then 8 else 0
def sOf (p q n : Int) : Int := if n = 1 then s1 p else if n = 2 then (if 240 ≤ p then 11 else if p = 226 ∧ q = 128 then 7 else 6) else if n = 3 then 12 else 0

theorem sof_end {p q r s v n : Int} {w : World} (h : v = sOf p q n) : Ending.returned (.int .i64 v) = .returned (.int .i64 (sOf p q n)) ∧ Below w.heap.size w (w.alloc (.cells #[.int .i64 p, .int .i64 q, .int .i64 r, .int .i64 s] 28)) :=
  ⟨by rw [h], (Below.refl _ _).alloc (Nat.le_refl _) _⟩

set_option maxHeartbeats 2000000 in
theorem sof1 (p q r s : Int) (w : World) : Calls Try.prog 13 #[.agg #[.int .i64 p, .int .i64 q, .int .i64 r, .int .i64 s], .int .i64 1] w fun e w' => e = .returned (.int .i64 (sOf p q 1)) ∧ Below w.heap.size w w' := by
  have e0 : sOf p q 1 = s1 p := by unfold sOf; rw [if_pos rfl]
  by_cases hl : p = 224 ∨ p = 226 ∨ p = 237 ∨ p = 240 ∨ p = 244
  · rcases hl with rfl | rfl | rfl | rfl | rfl
    all_goals
      clear e0
      go_enter Try.func13, Try.ntmps13
      go_wp2
      go_ret
      exact sof_end rfl
  have t1 : (p == 224) = false := by simp; omega
  have t2 : (p == 226) = false := by simp; omega
  have t3 : (p == 237) = false := by simp; omega
  have t4 : (p == 240) = false := by simp; omega
  have t5 : (p == 244) = false := by simp; omega
  by_cases hr : 194 ≤ p ∧ p ≤ 223
  · have E : Hid (1 = sOf p q 1) := by show _ = _; rw [e0]; unfold s1; rw [if_pos (by omega)]
    obtain ⟨ha, hb⟩ := hr
    clear e0 hl
    go_enter Try.func13, Try.ntmps13
    go_wp2
    go_ret
    exact sof_end E.out
  by_cases hr : 225 ≤ p ∧ p ≤ 239
  · have E : Hid (2 = sOf p q 1) := by show _ = _; rw [e0]; unfold s1; rw [if_neg (by omega), if_neg (by omega), if_neg (by omega), if_neg (by omega), if_pos (by omega)]
    obtain ⟨ha, hb⟩ := hr
    clear e0 hl
    go_enter Try.func13, Try.ntmps13
    go_wp2
    go_ret
    exact sof_end E.out
  by_cases hr : 241 ≤ p ∧ p ≤ 243
  · have E : Hid (8 = sOf p q 1) := by show _ = _; rw [e0]; unfold s1; rw [if_neg (by omega), if_neg (by omega), if_neg (by omega), if_neg (by omega), if_neg (by omega), if_neg (by omega), if_neg (by omega), if_pos (by omega)]
    obtain ⟨ha, hb⟩ := hr
    clear e0 hl
    go_enter Try.func13, Try.ntmps13
    go_wp2
    go_ret
    exact sof_end E.out
  have E : Hid (0 = sOf p q 1) := by show _ = _; rw [e0]; unfold s1; rw [if_neg (by omega), if_neg (by omega), if_neg (by omega), if_neg (by omega), if_neg (by omega), if_neg (by omega), if_neg (by omega), if_neg (by omega)]
  by_cases hx : p < 194
  · clear e0 hl
    go_enter Try.func13, Try.ntmps13
    go_wp2
    go_ret
    exact sof_end E.out
  · have hy : 244 < p := by omega
    clear e0 hl
    go_enter Try.func13, Try.ntmps13
    go_wp2
    go_ret
    exact sof_end E.out

set_option maxHeartbeats 2000000 in
theorem sof2 (p q r s : Int) (w : World) : Calls Try.prog 13 #[.agg #[.int .i64 p, .int .i64 q, .int .i64 r, .int .i64 s], .int .i64 2] w fun e w' => e = .returned (.int .i64 (sOf p q 2)) ∧ Below w.heap.size w w' := by
  have e0 : sOf p q 2 = if 240 ≤ p then 11 else if p = 226 ∧ q = 128 then 7 else 6 := by unfold sOf; rw [if_neg (by omega), if_pos rfl]
  by_cases hp : 240 ≤ p
  · have E : Hid (11 = sOf p q 2) := by show _ = _; rw [e0, if_pos hp]
    clear e0
    go_enter Try.func13, Try.ntmps13
    go_wp2
    go_ret
    exact sof_end E.out
  by_cases h6 : p = 226
  · subst h6
    by_cases hq : q = 128
    · subst hq
      clear e0
      go_enter Try.func13, Try.ntmps13
      go_wp2
      go_ret
      exact sof_end rfl
    · have E : Hid (6 = sOf 226 q 2) := by show _ = _; rw [e0, if_neg hp, if_neg (fun h => hq h.2)]
      have t : (q == 128) = false := by simp [hq]
      clear e0 hq
      go_enter Try.func13, Try.ntmps13
      go_wp2
      go_ret
      exact sof_end E.out
  · have E : Hid (6 = sOf p q 2) := by show _ = _; rw [e0, if_neg hp, if_neg (fun h => h6 h.1)]
    have t : (p == 226) = false := by simp [h6]
    clear e0 h6
    go_enter Try.func13, Try.ntmps13
    go_wp2
    go_ret
    exact sof_end E.out

set_option maxHeartbeats 2000000 in
theorem sofn (p q r s n : Int) (hn : n = 0 ∨ n = 3 ∨ n = 4) (w : World) : Calls Try.prog 13 #[.agg #[.int .i64 p, .int .i64 q, .int .i64 r, .int .i64 s], .int .i64 n] w fun e w' => e = .returned (.int .i64 (sOf p q n)) ∧ Below w.heap.size w w' := by
  rcases hn with rfl | rfl | rfl
  all_goals
    go_enter Try.func13, Try.ntmps13
    go_wp2
    go_ret
    exact sof_end rfl

theorem sof_calls (p q r s n : Int) (h0 : 0 ≤ n) (h4 : n ≤ 4) (w : World) : Calls Try.prog 13 #[.agg #[.int .i64 p, .int .i64 q, .int .i64 r, .int .i64 s], .int .i64 n] w fun e w' => e = .returned (.int .i64 (sOf p q n)) ∧ Below w.heap.size w w' := by
  by_cases h1 : n = 1
  · subst h1; exact sof1 p q r s w
  by_cases h2 : n = 2
  · subst h2; exact sof2 p q r s w
  exact sofn p q r s n (by omega) w

end Go.Proofs.Qxb6605359a
