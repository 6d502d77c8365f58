import Derived.Test.Qxb6605359aPre
import Derived.Test.Qxb6605359aRunesLaw
namespace Go.Proofs.Qxb6605359a
open Go.RowKit

theorem pre_any (o : Int) (w : World) (h0 : 0 ≤ o) (h1 : o ≤ 12) : Calls Try.prog 11 #[.int .i64 o] w fun e w' => ∃ p q r n : Int, e = .returned (.tuple #[.agg #[.int .i64 p, .int .i64 q, .int .i64 r, .int .i64 0], .int .i64 n]) ∧ 0 ≤ n ∧ n ≤ 3 ∧ Below w.heap.size w w' := by
  rcases upto12 h0 h1 with rfl | rfl | rfl | rfl | rfl | rfl | rfl | rfl | rfl | rfl | rfl | rfl | rfl
  · exact (pre0 w).mono fun e w' ⟨he, hb⟩ => ⟨_, _, _, _, he, by omega, by omega, hb⟩
  · exact (pre1 w).mono fun e w' ⟨he, hb⟩ => ⟨_, _, _, _, he, by omega, by omega, hb⟩
  · exact (pre2 w).mono fun e w' ⟨he, hb⟩ => ⟨_, _, _, _, he, by omega, by omega, hb⟩
  · exact (pre3 w).mono fun e w' ⟨he, hb⟩ => ⟨_, _, _, _, he, by omega, by omega, hb⟩
  · exact (pre4 w).mono fun e w' ⟨he, hb⟩ => ⟨_, _, _, _, he, by omega, by omega, hb⟩
  · exact (pre5 w).mono fun e w' ⟨he, hb⟩ => ⟨_, _, _, _, he, by omega, by omega, hb⟩
  · exact (pre6 w).mono fun e w' ⟨he, hb⟩ => ⟨_, _, _, _, he, by omega, by omega, hb⟩
  · exact (pre7 w).mono fun e w' ⟨he, hb⟩ => ⟨_, _, _, _, he, by omega, by omega, hb⟩
  · exact (pre8 w).mono fun e w' ⟨he, hb⟩ => ⟨_, _, _, _, he, by omega, by omega, hb⟩
  · exact (pre9 w).mono fun e w' ⟨he, hb⟩ => ⟨_, _, _, _, he, by omega, by omega, hb⟩
  · exact (pre10 w).mono fun e w' ⟨he, hb⟩ => ⟨_, _, _, _, he, by omega, by omega, hb⟩
  · exact (pre11 w).mono fun e w' ⟨he, hb⟩ => ⟨_, _, _, _, he, by omega, by omega, hb⟩
  · exact (pre12 w).mono fun e w' ⟨he, hb⟩ => ⟨_, _, _, _, he, by omega, by omega, hb⟩

/-! ### zzModelGoesOn (function 9) -/
set_option maxHeartbeats 1000000 in
theorem mod_out (o b : Int) (w : World) (h0 : 0 ≤ o) (h1 : o ≤ 12) (h : b < 128 ∨ 191 < b) : Calls Try.prog 9 #[.int .i64 o, .int .i64 b] w fun e w' => e = .returned (.tuple #[.int .i64 0, .bool false]) ∧ Below w.heap.size w w' := by
  rcases h with h | h
  · have d1 : decide (b < 128) = true := decide_eq_true h
    go_enter Try.func9, Try.ntmps9
    go_wp2_with fail
    refine (pre_any o _ h0 h1).mono ?_
    rintro e x1 ⟨p, q, r, n, rfl, n0, n3, b1⟩
    by_cases hn : n = 0
    · subst hn
      go_wp2
      go_ret2
      exact ⟨rfl, b1.alloc b1.size _⟩
    · have t : (n == 0) = false := by simp [hn]
      clear hn
      go_wp2
      go_ret2
      exact ⟨rfl, b1.alloc b1.size _⟩
  · have d1 : decide (b < 128) = false := decide_eq_false (by omega)
    have d2 : decide (191 < b) = true := decide_eq_true h
    go_enter Try.func9, Try.ntmps9
    go_wp2_with fail
    refine (pre_any o _ h0 h1).mono ?_
    rintro e x1 ⟨p, q, r, n, rfl, n0, n3, b1⟩
    by_cases hn : n = 0
    · subst hn
      go_wp2
      go_ret2
      exact ⟨rfl, b1.alloc b1.size _⟩
    · have t : (n == 0) = false := by simp [hn]
      clear hn
      go_wp2
      go_ret2
      exact ⟨rfl, b1.alloc b1.size _⟩

set_option maxHeartbeats 1000000 in
theorem m0 (b : Int) (w : World) (_h0 : 128 ≤ b) (_h1 : b ≤ 191) : Calls Try.prog 9 #[.int .i64 0, .int .i64 b] w fun e w' => e = .returned (.tuple #[.int .i64 0, .bool false]) ∧ Below w.heap.size w w' := by
  go_enter Try.func9, Try.ntmps9
  go_wp2_with fail
  refine (pre0 _).mono ?_
  rintro e x1 ⟨rfl, b1⟩
  go_wp2
  go_ret2
  exact ⟨rfl, b1.alloc b1.size _⟩

set_option maxHeartbeats 1000000 in
theorem m1 (b : Int) (w : World) (h0 : 128 ≤ b) (h1 : b ≤ 191) : Calls Try.prog 9 #[.int .i64 1, .int .i64 b] w fun e w' => e = .returned (.tuple #[.int .i64 0, .bool true]) ∧ Below w.heap.size w w' := by
  go_enter Try.func9, Try.ntmps9
  go_wp2_with fail
  refine (pre1 _).mono ?_
  rintro e x1 ⟨rfl, b1⟩
  go_wp2
  go_ret2
  exact ⟨rfl, b1.alloc b1.size _⟩

set_option maxHeartbeats 1000000 in
theorem m2 (b : Int) (w : World) (h0 : 128 ≤ b) (h1 : b ≤ 191) : Calls Try.prog 9 #[.int .i64 2, .int .i64 b] w fun e w' => e = .returned (.tuple #[.int .i64 6, .bool true]) ∧ Below w.heap.size w w' := by
  go_enter Try.func9, Try.ntmps9
  go_wp2_with fail
  refine (pre2 _).mono ?_
  rintro e x1 ⟨rfl, b1⟩
  go_wp2
  go_ret2
  exact ⟨rfl, (b1.alloc b1.size _).alloc (by have := b1.size; simp; omega) _⟩

set_option maxHeartbeats 1000000 in
theorem m3a (b : Int) (w : World) (h0 : 128 ≤ b) (h1 : b ≤ 191) (hx : 160 ≤ b) : Calls Try.prog 9 #[.int .i64 3, .int .i64 b] w fun e w' => e = .returned (.tuple #[.int .i64 6, .bool true]) ∧ Below w.heap.size w w' := by
  go_enter Try.func9, Try.ntmps9
  go_wp2_with fail
  refine (pre3 _).mono ?_
  rintro e x1 ⟨rfl, b1⟩
  go_wp2
  go_ret2
  exact ⟨rfl, (b1.alloc b1.size _).alloc (by have := b1.size; simp; omega) _⟩

set_option maxHeartbeats 1000000 in
theorem m3b (b : Int) (w : World) (h0 : 128 ≤ b) (h1 : b ≤ 191) (hx : b < 160) : Calls Try.prog 9 #[.int .i64 3, .int .i64 b] w fun e w' => e = .returned (.tuple #[.int .i64 6, .bool false]) ∧ Below w.heap.size w w' := by
  go_enter Try.func9, Try.ntmps9
  go_wp2_with fail
  refine (pre3 _).mono ?_
  rintro e x1 ⟨rfl, b1⟩
  go_wp2
  go_ret2
  exact ⟨rfl, (b1.alloc b1.size _).alloc (by have := b1.size; simp; omega) _⟩

set_option maxHeartbeats 1000000 in
theorem m4a (b : Int) (w : World) (h0 : 128 ≤ b) (h1 : b ≤ 191) (hx : 129 ≤ b) (t : (b == 128) = false) : Calls Try.prog 9 #[.int .i64 4, .int .i64 b] w fun e w' => e = .returned (.tuple #[.int .i64 6, .bool true]) ∧ Below w.heap.size w w' := by
  go_enter Try.func9, Try.ntmps9
  go_wp2_with fail
  refine (pre4 _).mono ?_
  rintro e x1 ⟨rfl, b1⟩
  go_wp2
  go_ret2
  exact ⟨rfl, (b1.alloc b1.size _).alloc (by have := b1.size; simp; omega) _⟩

set_option maxHeartbeats 1000000 in
theorem m4b (w : World) : Calls Try.prog 9 #[.int .i64 4, (.int .i64 128)] w fun e w' => e = .returned (.tuple #[.int .i64 7, .bool true]) ∧ Below w.heap.size w w' := by
  go_enter Try.func9, Try.ntmps9
  go_wp2_with fail
  refine (pre4 _).mono ?_
  rintro e x1 ⟨rfl, b1⟩
  go_wp2
  go_ret2
  exact ⟨rfl, (b1.alloc b1.size _).alloc (by have := b1.size; simp; omega) _⟩

set_option maxHeartbeats 1000000 in
theorem m5a (b : Int) (w : World) (h0 : 128 ≤ b) (h1 : b ≤ 191) (hx : b ≤ 159) : Calls Try.prog 9 #[.int .i64 5, .int .i64 b] w fun e w' => e = .returned (.tuple #[.int .i64 6, .bool true]) ∧ Below w.heap.size w w' := by
  go_enter Try.func9, Try.ntmps9
  go_wp2_with fail
  refine (pre5 _).mono ?_
  rintro e x1 ⟨rfl, b1⟩
  go_wp2
  go_ret2
  exact ⟨rfl, (b1.alloc b1.size _).alloc (by have := b1.size; simp; omega) _⟩

set_option maxHeartbeats 1000000 in
theorem m5b (b : Int) (w : World) (h0 : 128 ≤ b) (h1 : b ≤ 191) (hx : 159 < b) (d : decide (b ≤ 159) = false) : Calls Try.prog 9 #[.int .i64 5, .int .i64 b] w fun e w' => e = .returned (.tuple #[.int .i64 6, .bool false]) ∧ Below w.heap.size w w' := by
  go_enter Try.func9, Try.ntmps9
  go_wp2_with fail
  refine (pre5 _).mono ?_
  rintro e x1 ⟨rfl, b1⟩
  go_wp2
  go_ret2
  exact ⟨rfl, (b1.alloc b1.size _).alloc (by have := b1.size; simp; omega) _⟩

set_option maxHeartbeats 1000000 in
theorem m6 (b : Int) (w : World) (h0 : 128 ≤ b) (h1 : b ≤ 191) : Calls Try.prog 9 #[.int .i64 6, .int .i64 b] w fun e w' => e = .returned (.tuple #[.int .i64 0, .bool true]) ∧ Below w.heap.size w w' := by
  go_enter Try.func9, Try.ntmps9
  go_wp2_with fail
  refine (pre6 _).mono ?_
  rintro e x1 ⟨rfl, b1⟩
  go_wp2
  go_ret2
  exact ⟨rfl, b1.alloc b1.size _⟩

set_option maxHeartbeats 1000000 in
theorem m7 (b : Int) (w : World) (h0 : 128 ≤ b) (h1 : b ≤ 191) : Calls Try.prog 9 #[.int .i64 7, .int .i64 b] w fun e w' => e = .returned (.tuple #[.int .i64 0, .bool true]) ∧ Below w.heap.size w w' := by
  go_enter Try.func9, Try.ntmps9
  go_wp2_with fail
  refine (pre7 _).mono ?_
  rintro e x1 ⟨rfl, b1⟩
  go_wp2
  go_ret2
  exact ⟨rfl, b1.alloc b1.size _⟩

set_option maxHeartbeats 1000000 in
theorem m8 (b : Int) (w : World) (h0 : 128 ≤ b) (h1 : b ≤ 191) : Calls Try.prog 9 #[.int .i64 8, .int .i64 b] w fun e w' => e = .returned (.tuple #[.int .i64 11, .bool true]) ∧ Below w.heap.size w w' := by
  go_enter Try.func9, Try.ntmps9
  go_wp2_with fail
  refine (pre8 _).mono ?_
  rintro e x1 ⟨rfl, b1⟩
  go_wp2
  go_ret2
  exact ⟨rfl, (b1.alloc b1.size _).alloc (by have := b1.size; simp; omega) _⟩

set_option maxHeartbeats 1000000 in
theorem m9a (b : Int) (w : World) (h0 : 128 ≤ b) (h1 : b ≤ 191) (hx : 144 ≤ b) : Calls Try.prog 9 #[.int .i64 9, .int .i64 b] w fun e w' => e = .returned (.tuple #[.int .i64 11, .bool true]) ∧ Below w.heap.size w w' := by
  go_enter Try.func9, Try.ntmps9
  go_wp2_with fail
  refine (pre9 _).mono ?_
  rintro e x1 ⟨rfl, b1⟩
  go_wp2
  go_ret2
  exact ⟨rfl, (b1.alloc b1.size _).alloc (by have := b1.size; simp; omega) _⟩

set_option maxHeartbeats 1000000 in
theorem m9b (b : Int) (w : World) (h0 : 128 ≤ b) (h1 : b ≤ 191) (hx : b < 144) : Calls Try.prog 9 #[.int .i64 9, .int .i64 b] w fun e w' => e = .returned (.tuple #[.int .i64 11, .bool false]) ∧ Below w.heap.size w w' := by
  go_enter Try.func9, Try.ntmps9
  go_wp2_with fail
  refine (pre9 _).mono ?_
  rintro e x1 ⟨rfl, b1⟩
  go_wp2
  go_ret2
  exact ⟨rfl, (b1.alloc b1.size _).alloc (by have := b1.size; simp; omega) _⟩

set_option maxHeartbeats 1000000 in
theorem m10a (b : Int) (w : World) (h0 : 128 ≤ b) (h1 : b ≤ 191) (hx : b ≤ 143) : Calls Try.prog 9 #[.int .i64 10, .int .i64 b] w fun e w' => e = .returned (.tuple #[.int .i64 11, .bool true]) ∧ Below w.heap.size w w' := by
  go_enter Try.func9, Try.ntmps9
  go_wp2_with fail
  refine (pre10 _).mono ?_
  rintro e x1 ⟨rfl, b1⟩
  go_wp2
  go_ret2
  exact ⟨rfl, (b1.alloc b1.size _).alloc (by have := b1.size; simp; omega) _⟩

set_option maxHeartbeats 1000000 in
theorem m10b (b : Int) (w : World) (h0 : 128 ≤ b) (h1 : b ≤ 191) (hx : 143 < b) (d : decide (b ≤ 143) = false) : Calls Try.prog 9 #[.int .i64 10, .int .i64 b] w fun e w' => e = .returned (.tuple #[.int .i64 11, .bool false]) ∧ Below w.heap.size w w' := by
  go_enter Try.func9, Try.ntmps9
  go_wp2_with fail
  refine (pre10 _).mono ?_
  rintro e x1 ⟨rfl, b1⟩
  go_wp2
  go_ret2
  exact ⟨rfl, (b1.alloc b1.size _).alloc (by have := b1.size; simp; omega) _⟩

set_option maxHeartbeats 1000000 in
theorem m11 (b : Int) (w : World) (h0 : 128 ≤ b) (h1 : b ≤ 191) : Calls Try.prog 9 #[.int .i64 11, .int .i64 b] w fun e w' => e = .returned (.tuple #[.int .i64 12, .bool true]) ∧ Below w.heap.size w w' := by
  go_enter Try.func9, Try.ntmps9
  go_wp2_with fail
  refine (pre11 _).mono ?_
  rintro e x1 ⟨rfl, b1⟩
  go_wp2
  go_ret2
  exact ⟨rfl, (b1.alloc b1.size _).alloc (by have := b1.size; simp; omega) _⟩

set_option maxHeartbeats 1000000 in
theorem m12 (b : Int) (w : World) (h0 : 128 ≤ b) (h1 : b ≤ 191) : Calls Try.prog 9 #[.int .i64 12, .int .i64 b] w fun e w' => e = .returned (.tuple #[.int .i64 0, .bool true]) ∧ Below w.heap.size w w' := by
  go_enter Try.func9, Try.ntmps9
  go_wp2_with fail
  refine (pre12 _).mono ?_
  rintro e x1 ⟨rfl, b1⟩
  go_wp2
  go_ret2
  exact ⟨rfl, b1.alloc b1.size _⟩

theorem ge160 {b : Int} (h0 : 128 ≤ b) (h1 : b ≤ 191) : (4 ≤ bf b) = (160 ≤ b) := by
  by_cases h : 160 ≤ b
  · have := c_ge160 h h1; exact propext ⟨fun _ => h, fun _ => this.1⟩
  · have := c_le159 h0 (by omega : b ≤ 159); exact propext ⟨fun h' => by omega, fun h' => absurd h' h⟩
theorem ge144 {b : Int} (h0 : 128 ≤ b) (h1 : b ≤ 191) : (3 ≤ bf b) = (144 ≤ b) := by
  by_cases h : 144 ≤ b
  · have := c_ge144 h h1; exact propext ⟨fun _ => h, fun _ => this.1⟩
  · have := c_le143 h0 (by omega : b ≤ 143); exact propext ⟨fun h' => by omega, fun h' => absurd h' h⟩

/-- The model answers, at every byte, what goesOn answers at the byte's form. -/
theorem mod_calls (o b : Int) (w : World) (o0 : 0 ≤ o) (o1 : o ≤ 12) : Calls Try.prog 9 #[.int .i64 o, .int .i64 b] w fun e w' => e = .returned (.tuple #[.int .i64 (goTo o (bf b)), .bool (goOk o (bf b))]) ∧ Below w.heap.size w w' := by
  by_cases hlo : b < 128
  · rw [bf_ascii hlo, goTo_out (by omega), goOk_out (by omega)]
    exact mod_out o b w o0 o1 (.inl hlo)
  by_cases hhi : 191 < b
  · have hf : 5 < bf b := by
      unfold bf
      rw [if_neg (by omega), if_neg (by omega), if_neg (by omega), if_neg (by omega), if_neg (by omega), if_neg (by omega)]
      repeat' split
      all_goals omega
    rw [goTo_out (.inr hf), goOk_out (.inr hf)]
    exact mod_out o b w o0 o1 (.inr hhi)
  have h0 : 128 ≤ b := by omega
  have h1 : b ≤ 191 := by omega
  have hf := c_all h0 h1
  have q4 := ge160 h0 h1
  have q3 := ge144 h0 h1
  rcases upto12 o0 o1 with rfl | rfl | rfl | rfl | rfl | rfl | rfl | rfl | rfl | rfl | rfl | rfl | rfl
  · rw [goTo_in hf, goOk_in hf]; exact m0 b w h0 h1
  · rw [goTo_in hf, goOk_in hf]; exact m1 b w h0 h1
  · rw [goTo_in hf, goOk_in hf]; exact m2 b w h0 h1
  · rw [goTo_in hf, goOk_in hf]
    by_cases hx : 160 ≤ b
    · have e : decide (4 ≤ bf b) = true := decide_eq_true (by rw [q4]; exact hx)
      simp only [e]; exact m3a b w h0 h1 hx
    · have e : decide (4 ≤ bf b) = false := decide_eq_false (by rw [q4]; exact hx)
      simp only [e]; exact m3b b w h0 h1 (by omega)
  · rw [goTo_in hf, goOk_in hf]
    by_cases hx : b = 128
    · subst hx; exact m4b w
    · have e : ¬ bf b = 1 := by have := c_not128 (b := b) (by omega) h1; omega
      simp only [e]; exact m4a b w h0 h1 (by omega) (by simp [hx])
  · rw [goTo_in hf, goOk_in hf]
    by_cases hx : b ≤ 159
    · have e : decide (bf b ≤ 3) = true := decide_eq_true (by have : ¬ 4 ≤ bf b := by (rw [q4]; omega)
                                                              omega)
      simp only [e]; exact m5a b w h0 h1 hx
    · have e : decide (bf b ≤ 3) = false := decide_eq_false (by have : 4 ≤ bf b := by (rw [q4]; omega)
                                                                omega)
      simp only [e]; exact m5b b w h0 h1 (by omega) (decide_eq_false hx)
  · rw [goTo_in hf, goOk_in hf]; exact m6 b w h0 h1
  · rw [goTo_in hf, goOk_in hf]; exact m7 b w h0 h1
  · rw [goTo_in hf, goOk_in hf]; exact m8 b w h0 h1
  · rw [goTo_in hf, goOk_in hf]
    by_cases hx : 144 ≤ b
    · have e : decide (3 ≤ bf b) = true := decide_eq_true (by rw [q3]; exact hx)
      simp only [e]; exact m9a b w h0 h1 hx
    · have e : decide (3 ≤ bf b) = false := decide_eq_false (by rw [q3]; exact hx)
      simp only [e]; exact m9b b w h0 h1 (by omega)
  · rw [goTo_in hf, goOk_in hf]
    by_cases hx : b ≤ 143
    · have e : decide (bf b ≤ 2) = true := decide_eq_true (by have : ¬ 3 ≤ bf b := by (rw [q3]; omega)
                                                              omega)
      simp only [e]; exact m10a b w h0 h1 hx
    · have e : decide (bf b ≤ 2) = false := decide_eq_false (by have : 3 ≤ bf b := by (rw [q3]; omega)
                                                                omega)
      simp only [e]; exact m10b b w h0 h1 (by omega) (decide_eq_false hx)
  · rw [goTo_in hf, goOk_in hf]; exact m11 b w h0 h1
  · rw [goTo_in hf, goOk_in hf]; exact m12 b w h0 h1

end Go.Proofs.Qxb6605359a
