import Derived.Test.Qxb6600572aDesc
namespace Go.Proofs.Qxb6600572a
open Go.RowKit

/-! ### FollowsPictureID (function 17), pictureIDWidth (16) -/
theorem and_u16 (x m k : Int) (hm : (m = 127 ∧ k = 128) ∨ (m = 32767 ∧ k = 32768)) (h0 : 0 ≤ x) (h1 : x ≤ 65535) : bits .and .u16 x m = x % k := by
  obtain ⟨X, rfl⟩ := Int.eq_ofNat_of_zero_le h0
  rcases hm with ⟨rfl, rfl⟩ | ⟨rfl, rfl⟩
  · rw [u16_and (X : Int) 127 (by omega) (by omega) (by omega) (by omega)]
    show ((X &&& 127 : Nat) : Int) = _
    rw [show (127 : Nat) = 2 ^ 7 - 1 from rfl, Nat.and_two_pow_sub_one_eq_mod]
    omega
  · rw [u16_and (X : Int) 32767 (by omega) (by omega) (by omega) (by omega)]
    show ((X &&& 32767 : Nat) : Int) = _
    rw [show (32767 : Nat) = 2 ^ 15 - 1 from rfl, Nat.and_two_pow_sub_one_eq_mod]
    omega

def wid (lp : Bool) : Int := if lp = true then 32768 else 128
/-- Does the descriptor carry the picture ID that comes after prev? -/
def fol (hp lp : Bool) (pid prev : Int) : Bool := hp && (pid == (prev + 1) % wid lp)

set_option maxHeartbeats 1000000 in
theorem fol_calls (nr st hp lp ht hT ls hk : Bool) (pt pid tl tid ky : Int) (prev : Int) (w : World) :
    Calls Try.prog 17 #[.agg #[.bool nr, .bool st, .int .u8 pt, .bool hp, .bool lp, .int .u16 pid, .bool ht, .int .u8 tl, .bool hT, .int .u8 tid, .bool ls, .bool hk, .int .u8 ky], .int .u16 prev] w fun e w' => e = .returned (.bool (fol hp lp pid prev)) ∧ Below w.heap.size w w' := by
  cases hp
  · cases lp
    all_goals
      go_enter Try.func17, Try.ntmps17
      go_wp2
      go_ret
      exact ⟨rfl, (Below.refl _ _).alloc (Nat.le_refl _) _⟩
  · have e1 : bits .and .u16 (IntKind.u16.wrap (prev + 1)) 127 = (prev + 1) % 128 := by
      rw [IntKind.wrap_u16, and_u16 _ 127 128 (by omega) (by omega) (by omega)]
      omega
    have e2 : bits .and .u16 (IntKind.u16.wrap (prev + 1)) 32767 = (prev + 1) % 32768 := by
      rw [IntKind.wrap_u16, and_u16 _ 32767 32768 (by omega) (by omega) (by omega)]
      omega
    cases lp
    all_goals
      go_enter Try.func17, Try.ntmps17
      go_wp2
      go_ret
      exact ⟨rfl, (Below.refl _ _).alloc (Nat.le_refl _) _⟩

theorem wid_calls (nr st hp lp ht hT ls hk : Bool) (pt pid tl tid ky : Int) (w : World) :
    Calls Try.prog 16 #[.agg #[.bool nr, .bool st, .int .u8 pt, .bool hp, .bool lp, .int .u16 pid, .bool ht, .int .u8 tl, .bool hT, .int .u8 tid, .bool ls, .bool hk, .int .u8 ky]] w fun e w' => e = .returned (.int .u32 (wid lp)) ∧ Below w.heap.size w w' := by
  cases lp
  all_goals
    go_enter Try.func16, Try.ntmps16
    go_wp2
    go_ret
    exact ⟨rfl, (Below.refl _ _).alloc (Nat.le_refl _) _⟩
end Go.Proofs.Qxb6600572a
