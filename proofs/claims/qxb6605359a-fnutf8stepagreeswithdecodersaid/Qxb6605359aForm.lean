import Derived.Test.Qxb6605359aRows
import Derived.WalkKit
import Derived.WalkSpells
import Derived.WalkLawsBesides
namespace Go.Proofs.Qxb6605359a
open Go.RowKit

/-! ### zzByteForm (function 8) -/
def bf (b : Int) : Int := if b < 128 then 0 else if b = 128 then 1 else if b ≤ 143 then 2 else if b ≤ 159 then 3 else if (b = 168 ∨ b = 169) then 5 else if b ≤ 191 then 4 else if b ≤ 193 then 14 else if b ≤ 223 then 6 else if b = 224 then 8 else if b = 226 then 9 else if b = 237 then 10 else if b ≤ 239 then 7 else if b = 240 then 12 else if b = 244 then 13 else if b ≤ 243 then 11 else 14

set_option maxHeartbeats 1000000 in
theorem bf_calls (b : Int) (w : World) : Calls Try.prog 8 #[.int .i64 b] w fun e w' => e = .returned (.int .i64 (bf b)) ∧ w' = w := by
  by_cases h0 : b < 128
  · have e : bf b = 0 := by unfold bf; rw [if_pos (by omega)]
    rw [e]; clear e
    go_enter Try.func8, Try.ntmps8
    go_wp2
    go_ret
    exact ⟨rfl, rfl⟩
  by_cases h1 : b = 128
  · have e : bf b = 1 := by unfold bf; rw [if_neg (by omega)]; rw [if_pos (by omega)]
    rw [e]; clear e
    subst h1
    clear h0
    go_enter Try.func8, Try.ntmps8
    go_wp2
    go_ret
    exact ⟨rfl, rfl⟩
  have t1 : (b == 128) = false := by simp; omega
  by_cases h2 : b ≤ 143
  · have e : bf b = 2 := by unfold bf; rw [if_neg (by omega)]; rw [if_neg (by omega)]; rw [if_pos (by omega)]
    rw [e]; clear e
    go_enter Try.func8, Try.ntmps8
    go_wp2
    go_ret
    exact ⟨rfl, rfl⟩
  by_cases h3 : b ≤ 159
  · have e : bf b = 3 := by unfold bf; rw [if_neg (by omega)]; rw [if_neg (by omega)]; rw [if_neg (by omega)]; rw [if_pos (by omega)]
    rw [e]; clear e
    go_enter Try.func8, Try.ntmps8
    go_wp2
    go_ret
    exact ⟨rfl, rfl⟩
  by_cases h4 : (b = 168 ∨ b = 169)
  · have e : bf b = 5 := by unfold bf; rw [if_neg (by omega)]; rw [if_neg (by omega)]; rw [if_neg (by omega)]; rw [if_neg (by omega)]; rw [if_pos (by omega)]
    rw [e]; clear e
    rcases h4 with rfl | rfl
    all_goals
      clear h0 h1 h2 h3 t1
      go_enter Try.func8, Try.ntmps8
      go_wp2
      go_ret
      exact ⟨rfl, rfl⟩
  have t4a : (b == 168) = false := by simp; omega
  have t4b : (b == 169) = false := by simp; omega
  by_cases h5 : b ≤ 191
  · have e : bf b = 4 := by unfold bf; rw [if_neg (by omega)]; rw [if_neg (by omega)]; rw [if_neg (by omega)]; rw [if_neg (by omega)]; rw [if_neg (by omega)]; rw [if_pos (by omega)]
    rw [e]; clear e
    go_enter Try.func8, Try.ntmps8
    go_wp2
    go_ret
    exact ⟨rfl, rfl⟩
  by_cases h6 : b ≤ 193
  · have e : bf b = 14 := by unfold bf; rw [if_neg (by omega)]; rw [if_neg (by omega)]; rw [if_neg (by omega)]; rw [if_neg (by omega)]; rw [if_neg (by omega)]; rw [if_neg (by omega)]; rw [if_pos (by omega)]
    rw [e]; clear e
    go_enter Try.func8, Try.ntmps8
    go_wp2
    go_ret
    exact ⟨rfl, rfl⟩
  by_cases h7 : b ≤ 223
  · have e : bf b = 6 := by unfold bf; rw [if_neg (by omega)]; rw [if_neg (by omega)]; rw [if_neg (by omega)]; rw [if_neg (by omega)]; rw [if_neg (by omega)]; rw [if_neg (by omega)]; rw [if_neg (by omega)]; rw [if_pos (by omega)]
    rw [e]; clear e
    go_enter Try.func8, Try.ntmps8
    go_wp2
    go_ret
    exact ⟨rfl, rfl⟩
  by_cases h8 : b = 224
  · have e : bf b = 8 := by unfold bf; rw [if_neg (by omega)]; rw [if_neg (by omega)]; rw [if_neg (by omega)]; rw [if_neg (by omega)]; rw [if_neg (by omega)]; rw [if_neg (by omega)]; rw [if_neg (by omega)]; rw [if_neg (by omega)]; rw [if_pos (by omega)]
    rw [e]; clear e
    subst h8
    clear h0 h1 h2 h3 h4 h5 h6 h7 t1 t4a t4b
    go_enter Try.func8, Try.ntmps8
    go_wp2
    go_ret
    exact ⟨rfl, rfl⟩
  have t8 : (b == 224) = false := by simp; omega
  by_cases h9 : b = 226
  · have e : bf b = 9 := by unfold bf; rw [if_neg (by omega)]; rw [if_neg (by omega)]; rw [if_neg (by omega)]; rw [if_neg (by omega)]; rw [if_neg (by omega)]; rw [if_neg (by omega)]; rw [if_neg (by omega)]; rw [if_neg (by omega)]; rw [if_neg (by omega)]; rw [if_pos (by omega)]
    rw [e]; clear e
    subst h9
    clear h0 h1 h2 h3 h4 h5 h6 h7 h8 t1 t8 t4a t4b
    go_enter Try.func8, Try.ntmps8
    go_wp2
    go_ret
    exact ⟨rfl, rfl⟩
  have t9 : (b == 226) = false := by simp; omega
  by_cases h10 : b = 237
  · have e : bf b = 10 := by unfold bf; rw [if_neg (by omega)]; rw [if_neg (by omega)]; rw [if_neg (by omega)]; rw [if_neg (by omega)]; rw [if_neg (by omega)]; rw [if_neg (by omega)]; rw [if_neg (by omega)]; rw [if_neg (by omega)]; rw [if_neg (by omega)]; rw [if_neg (by omega)]; rw [if_pos (by omega)]
    rw [e]; clear e
    subst h10
    clear h0 h1 h2 h3 h4 h5 h6 h7 h8 h9 t1 t8 t9 t4a t4b
    go_enter Try.func8, Try.ntmps8
    go_wp2
    go_ret
    exact ⟨rfl, rfl⟩
  have t10 : (b == 237) = false := by simp; omega
  by_cases h11 : b ≤ 239
  · have e : bf b = 7 := by unfold bf; rw [if_neg (by omega)]; rw [if_neg (by omega)]; rw [if_neg (by omega)]; rw [if_neg (by omega)]; rw [if_neg (by omega)]; rw [if_neg (by omega)]; rw [if_neg (by omega)]; rw [if_neg (by omega)]; rw [if_neg (by omega)]; rw [if_neg (by omega)]; rw [if_neg (by omega)]; rw [if_pos (by omega)]
    rw [e]; clear e
    go_enter Try.func8, Try.ntmps8
    go_wp2
    go_ret
    exact ⟨rfl, rfl⟩
  by_cases h12 : b = 240
  · have e : bf b = 12 := by unfold bf; rw [if_neg (by omega)]; rw [if_neg (by omega)]; rw [if_neg (by omega)]; rw [if_neg (by omega)]; rw [if_neg (by omega)]; rw [if_neg (by omega)]; rw [if_neg (by omega)]; rw [if_neg (by omega)]; rw [if_neg (by omega)]; rw [if_neg (by omega)]; rw [if_neg (by omega)]; rw [if_neg (by omega)]; rw [if_pos (by omega)]
    rw [e]; clear e
    subst h12
    clear h0 h1 h2 h3 h4 h5 h6 h7 h8 h9 h10 h11 t1 t8 t9 t10 t4a t4b
    go_enter Try.func8, Try.ntmps8
    go_wp2
    go_ret
    exact ⟨rfl, rfl⟩
  have t12 : (b == 240) = false := by simp; omega
  by_cases h13 : b = 244
  · have e : bf b = 13 := by unfold bf; rw [if_neg (by omega)]; rw [if_neg (by omega)]; rw [if_neg (by omega)]; rw [if_neg (by omega)]; rw [if_neg (by omega)]; rw [if_neg (by omega)]; rw [if_neg (by omega)]; rw [if_neg (by omega)]; rw [if_neg (by omega)]; rw [if_neg (by omega)]; rw [if_neg (by omega)]; rw [if_neg (by omega)]; rw [if_neg (by omega)]; rw [if_pos (by omega)]
    rw [e]; clear e
    subst h13
    clear h0 h1 h2 h3 h4 h5 h6 h7 h8 h9 h10 h11 h12 t1 t8 t9 t10 t12 t4a t4b
    go_enter Try.func8, Try.ntmps8
    go_wp2
    go_ret
    exact ⟨rfl, rfl⟩
  have t13 : (b == 244) = false := by simp; omega
  by_cases h14 : b ≤ 243
  · have e : bf b = 11 := by unfold bf; rw [if_neg (by omega)]; rw [if_neg (by omega)]; rw [if_neg (by omega)]; rw [if_neg (by omega)]; rw [if_neg (by omega)]; rw [if_neg (by omega)]; rw [if_neg (by omega)]; rw [if_neg (by omega)]; rw [if_neg (by omega)]; rw [if_neg (by omega)]; rw [if_neg (by omega)]; rw [if_neg (by omega)]; rw [if_neg (by omega)]; rw [if_neg (by omega)]; rw [if_pos (by omega)]
    rw [e]; clear e
    go_enter Try.func8, Try.ntmps8
    go_wp2
    go_ret
    exact ⟨rfl, rfl⟩
  have e : bf b = 14 := by unfold bf; rw [if_neg (by omega)]; rw [if_neg (by omega)]; rw [if_neg (by omega)]; rw [if_neg (by omega)]; rw [if_neg (by omega)]; rw [if_neg (by omega)]; rw [if_neg (by omega)]; rw [if_neg (by omega)]; rw [if_neg (by omega)]; rw [if_neg (by omega)]; rw [if_neg (by omega)]; rw [if_neg (by omega)]; rw [if_neg (by omega)]; rw [if_neg (by omega)]; rw [if_neg (by omega)]
  rw [e]; clear e
  go_enter Try.func8, Try.ntmps8
  go_wp2
  go_ret
  exact ⟨rfl, rfl⟩

end Go.Proofs.Qxb6605359a
