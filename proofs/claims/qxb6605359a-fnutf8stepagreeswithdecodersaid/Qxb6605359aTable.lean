import Derived.Test.Qxb6605359aModel
namespace Go.Proofs.Qxb6605359a
open Go.RowKit

/-- Is there, among the bytes below k, one of the form? -/
def sn (f : Int) : Nat → Bool
  | 0 => false
  | k + 1 => sn f k || (bf (k : Int) == f)
theorem sn_all (f : Int) (h0 : 0 ≤ f) (h1 : f ≤ 14) : sn f 256 = true := by
  rcases (by omega : f = 0 ∨ f = 1 ∨ f = 2 ∨ f = 3 ∨ f = 4 ∨ f = 5 ∨ f = 6 ∨ f = 7 ∨ f = 8 ∨ f = 9 ∨ f = 10 ∨ f = 11 ∨ f = 12 ∨ f = 13 ∨ f = 14) with rfl | rfl | rfl | rfl | rfl | rfl | rfl | rfl | rfl | rfl | rfl | rfl | rfl | rfl | rfl <;> decide +kernel
theorem sn_hit {f : Int} {k : Nat} (h : bf (k : Int) = f) : sn f (k + 1) = true := by
  show (sn f k || (bf (k : Int) == f)) = true
  rw [h]; simp
theorem sn_miss {f : Int} {k : Nat} (h : bf (k : Int) ≠ f) : sn f (k + 1) = sn f k := by
  show (sn f k || (bf (k : Int) == f)) = _
  simp [h]
theorem bool_eq {a b : Bool} (h : a = b) : Value.bool a = .bool b := by rw [h]
theorem ret_boolv {x : Bool} (h : x = true) : Ending.returned (.bool x) = .returned (.bool true) := by rw [h]

set_option maxHeartbeats 1000000 in
theorem table_in (o f : Int) (w : World) (o0 : 0 ≤ o) (o1 : o ≤ 12) (f0 : 0 ≤ f) (f1 : f ≤ 14) :
    Calls Try.prog 3 #[.int .i64 o, .int .i64 f] w fun e w' => e = .returned (.bool true) ∧ Below w.heap.size w w' := by
  have d1 : decide (o < 0) = false := decide_eq_false (by omega)
  have d2 : decide (13 ≤ o) = false := decide_eq_false (by omega)
  have d3 : decide (f < 0) = false := decide_eq_false (by omega)
  have d4 : decide (14 < f) = false := decide_eq_false (by omega)
  have FIN : Hid (sn f 256 = true) := sn_all f f0 f1
  go_enter Try.func3, Try.ntmps3
  go_wp2_with fail
  refine (zzgoes_calls _ _ _ o0 o1).mono ?_
  rintro e x1 ⟨rfl, hw⟩
  rw [hw]
  clear hw x1
  go_wp2
  go_loopw [7, 8] (fun s i wr => ∃ k : Nat, k ≤ 256 ∧ i = .int .i64 k ∧ s = .bool (sn f k) ∧ Below w.heap.size w wr) (fun _ i _ => 256 - (intOf i).toNat)
  case atStart => exact ⟨0, Nat.zero_le _, rfl, rfl, Below.refl _ _⟩
  case round =>
    obtain ⟨k, hk, rfl, rfl, hb⟩ := hrel
    by_cases hlt : k < 256
    · have hlt' : (k : Int) < 256 := by omega
      by_cases hit : bf (k : Int) = f
      · have SN := sn_hit hit
        have HS : Hid (sn f (k + 1) = true) := SN
        have HH : Hid (bf (k : Int) = f) := hit
        clear SN hit
        go_wp2_with fail
        refine (bf_calls _ _).mono ?_
        rintro e x2 ⟨rfl, hw⟩
        rw [hw, HH.out]
        clear hw x2
        go_wp2_with fail
        refine (mod_calls _ _ _ o0 o1).mono ?_
        rintro e x2 ⟨rfl, b2⟩
        rw [HH.out]
        go_wp2
        go_roundw
        case rel => exact ⟨k + 1, by omega, by go_num, bool_eq HS.out.symm, hb.trans (b2.mono hb.size)⟩
        case measure => simp [intOf]; omega
      · have HS : Hid (sn f (k + 1) = sn f k) := sn_miss hit
        have t : (bf (k : Int) != f) = true := by rw [bne_iff_ne]; exact hit
        clear hit
        go_wp2_with fail
        refine (bf_calls _ _).mono ?_
        rintro e x2 ⟨rfl, hw⟩
        rw [hw]
        clear hw x2
        go_wp2
        go_roundw
        case rel => exact ⟨k + 1, by omega, by go_num, bool_eq HS.out.symm, hb⟩
        case measure => simp [intOf]; omega
    · have hkn : k = 256 := by omega
      subst hkn
      go_wp2
      go_ret
      exact ⟨ret_boolv FIN.out, hb⟩

theorem table_walk (o f : Int) (w : World) :
    Calls Try.prog 3 #[.int .i64 o, .int .i64 f] w fun e w' => e = .returned (.bool true) ∧ Below w.heap.size w w' := by
  by_cases h1 : o < 0
  · have d1 : decide (o < 0) = true := decide_eq_true h1
    go_enter Try.func3, Try.ntmps3
    go_wp2
    go_ret
    exact ⟨rfl, Below.refl _ _⟩
  have d1 : decide (o < 0) = false := decide_eq_false h1
  by_cases h2 : 13 ≤ o
  · have d2 : decide (13 ≤ o) = true := decide_eq_true h2
    go_enter Try.func3, Try.ntmps3
    go_wp2
    go_ret
    exact ⟨rfl, Below.refl _ _⟩
  have d2 : decide (13 ≤ o) = false := decide_eq_false h2
  by_cases h3 : f < 0
  · have d3 : decide (f < 0) = true := decide_eq_true h3
    go_enter Try.func3, Try.ntmps3
    go_wp2
    go_ret
    exact ⟨rfl, Below.refl _ _⟩
  have d3 : decide (f < 0) = false := decide_eq_false h3
  by_cases h4 : 14 < f
  · have d4 : decide (14 < f) = true := decide_eq_true h4
    go_enter Try.func3, Try.ntmps3
    go_wp2
    go_ret
    exact ⟨rfl, Below.refl _ _⟩
  exact table_in o f w (by omega) (by omega) (by omega) (by omega)

end Go.Proofs.Qxb6605359a
