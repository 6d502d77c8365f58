import Derived.Test.Qxb6605359aEnc
namespace Go.Proofs.Qxb6605359a
open Go.RowKit

/-- The states and the extra bytes on the way over the bytes b 0, b 1, .. -/
def Sk (b : Nat → Int) : Nat → Int
  | 0 => 0
  | k + 1 => usTo (Sk b k) (bf (b k))
def Tk (b : Nat → Int) : Nat → Int
  | 0 => 0
  | k + 1 => Tk b k + usEx (Sk b k) (bf (b k))

theorem goTo_bd (o f : Int) : 0 ≤ goTo o f ∧ goTo o f ≤ 12 := by unfold goTo; repeat' split; all_goals omega
theorem frm_bd (f : Int) : 0 ≤ frm f ∧ frm f ≤ 12 := by unfold frm; repeat' split; all_goals omega
theorem usTo_bd (o f : Int) : 0 ≤ usTo o f ∧ usTo o f ≤ 12 := by
  unfold usTo; split
  · exact goTo_bd o f
  · exact frm_bd f
theorem usEx_bd (o f : Int) : 0 ≤ usEx o f ∧ usEx o f ≤ 20 := by
  have := ob_bd o
  unfold usEx more; repeat' split; all_goals omega
theorem Sk_bd (b : Nat → Int) (k : Nat) : 0 ≤ Sk b k ∧ Sk b k ≤ 12 := by
  cases k with
  | zero => exact ⟨by show (0 : Int) ≤ 0; omega, by show (0 : Int) ≤ 12; omega⟩
  | succ k => exact usTo_bd _ _
theorem Tk_bd (b : Nat → Int) (k : Nat) : 0 ≤ Tk b k ∧ Tk b k ≤ 20 * k := by
  induction k with
  | zero => exact ⟨by show (0 : Int) ≤ 0; omega, by show (0 : Int) ≤ _; omega⟩
  | succ k ih =>
    have := usEx_bd (Sk b k) (bf (b k))
    show 0 ≤ Tk b k + _ ∧ Tk b k + _ ≤ _
    omega

theorem ret_bool {x : Bool} (h : x = true) : Ending.returned (.bool x) = .returned (.bool true) := by rw [h]

def bAt (b0 b1 b2 b3 : Int) (k : Nat) : Int := match k with | 0 => b0 | 1 => b1 | 2 => b2 | _ => b3

theorem four_cells (W : World) (b0 b1 b2 b3 : Int) (k : Nat) (h : k < 4) : (W.alloc (.cells #[.int .i64 b0, .int .i64 b1, .int .i64 b2, .int .i64 b3] 28)).cell? ⟨W.heap.size, k, none⟩ = some (.int .i64 (bAt b0 b1 b2 b3 k)) := by
  have e2 : (W.alloc (.cells #[.int .i64 b0, .int .i64 b1, .int .i64 b2, .int .i64 b3] 28)).heap[W.heap.size]? = some (.cells #[.int .i64 b0, .int .i64 b1, .int .i64 b2, .int .i64 b3] 28) := by
    show (W.heap.push _)[W.heap.size]? = _
    simp
  unfold World.cell?
  rw [e2]
  rcases (by omega : k = 0 ∨ k = 1 ∨ k = 2 ∨ k = 3) with rfl | rfl | rfl | rfl <;> rfl

set_option maxHeartbeats 4000000 in
theorem runes_big (cp : Int) (n : Nat) (b0 b1 b2 b3 : Int) (w : World) (hc0 : 0 ≤ cp) (hc1 : cp ≤ 2097151) (hn : n ≤ 4)
    (ENC : Hid (∀ w, Calls Try.prog 14 #[.int .i64 cp] w fun e w' => e = .returned (.tuple #[.agg #[.int .i64 b0, .int .i64 b1, .int .i64 b2, .int .i64 b3], .int .i64 n]) ∧ Below w.heap.size w w'))
    (hx : 1114111 < cp)
    (F1 : Hid (usTo (Sk (bAt b0 b1 b2 b3) n) 0 = 0)) (F2 : Hid (Tk (bAt b0 b1 b2 b3) n + usEx (Sk (bAt b0 b1 b2 b3) n) 0 = 5 * (n : Int))) :
    Calls Try.prog 5 #[.int .i32 cp] w fun e w' => e = .returned (.bool true) ∧ Below w.heap.size w w' := by
  have d1 : decide (cp < 0) = false := decide_eq_false (by omega)
  have d2 : decide (2097151 < cp) = false := decide_eq_false (by omega)
  go_enter Try.func5, Try.ntmps5
  go_wp2_with fail
  refine (ENC.out _).mono ?_
  rintro e x1 ⟨rfl, bx⟩
  go_wp2
  go_loopw [7, 8, 9] (fun st tt i wr => ∃ k : Nat, k ≤ n ∧ i = .int .i64 k ∧ st = .int .i64 (Sk (bAt b0 b1 b2 b3) k) ∧ tt = .int .i64 (Tk (bAt b0 b1 b2 b3) k) ∧ Below (x1.heap.size + 1) (x1.alloc (.cells #[.int .i64 b0, .int .i64 b1, .int .i64 b2, .int .i64 b3] 28)) wr) (fun _ _ i _ => n - (intOf i).toNat)
  case atStart => exact ⟨0, Nat.zero_le _, rfl, rfl, rfl, Below.refl _ _⟩
  case round =>
    obtain ⟨k, hk, rfl, rfl, rfl, hb⟩ := hrel
    obtain ⟨sb0, sb1⟩ := Sk_bd (bAt b0 b1 b2 b3) k
    obtain ⟨tb0, tb1⟩ := Tk_bd (bAt b0 b1 b2 b3) k
    by_cases hlt : k < n
    · obtain ⟨ub0, ub1⟩ := usEx_bd (Sk (bAt b0 b1 b2 b3) k) (bf (bAt b0 b1 b2 b3 k))
      have hcell : wr.cell? ⟨x1.heap.size, k, none⟩ = some (.int .i64 (bAt b0 b1 b2 b3 k)) := by
        rw [hb.cell (p := ⟨x1.heap.size, k, none⟩) (Nat.lt_succ_self _)]
        exact four_cells _ _ _ _ _ _ (by omega)
      have hk4 : (k : Int) < 4 := by omega
      go_wp2_with fail
      refine (bf_calls _ _).mono ?_
      rintro e x2 ⟨rfl, hw⟩
      rw [hw]
      clear hw x2
      go_wp2_with fail
      refine (zzstep_calls _ _ _ sb0 sb1).mono ?_
      rintro e x2 ⟨rfl, hw⟩
      rw [hw]
      clear hw x2
      go_wp2
      go_roundw
      case rel => exact ⟨k + 1, by omega, by go_num, rfl, rfl, hb⟩
      case measure => simp [intOf]; omega
    · have hkn : k = n := by omega
      subst hkn
      obtain ⟨ub0, ub1⟩ := usEx_bd (Sk (bAt b0 b1 b2 b3) k) 0
      go_wp2_with fail
      refine (zzstep_calls _ _ _ sb0 sb1).mono ?_
      rintro e x2 ⟨rfl, hw⟩
      rw [hw, F1.out]
      clear hw x2
      have G : Hid ((Tk (bAt b0 b1 b2 b3) k + usEx (Sk (bAt b0 b1 b2 b3) k) 0 == 5 * (k : Int)) = true) := by
        show _ = _
        rw [F2.out]; exact beq_self_eq_true _
      go_wp2
      go_ret
      refine ⟨?_, ((bx.alloc bx.size _).trans (hb.mono (Nat.le_succ_of_le bx.size)))⟩
      exact ret_bool G.out

set_option maxHeartbeats 4000000 in
theorem runes_sur (cp : Int) (n : Nat) (b0 b1 b2 b3 : Int) (w : World) (hc0 : 0 ≤ cp) (hc1 : cp ≤ 2097151) (hn : n ≤ 4)
    (ENC : Hid (∀ w, Calls Try.prog 14 #[.int .i64 cp] w fun e w' => e = .returned (.tuple #[.agg #[.int .i64 b0, .int .i64 b1, .int .i64 b2, .int .i64 b3], .int .i64 n]) ∧ Below w.heap.size w w'))
    (hx : 55296 ≤ cp) (hy : cp ≤ 57343)
    (F1 : Hid (usTo (Sk (bAt b0 b1 b2 b3) n) 0 = 0)) (F2 : Hid (Tk (bAt b0 b1 b2 b3) n + usEx (Sk (bAt b0 b1 b2 b3) n) 0 = 5 * (n : Int))) :
    Calls Try.prog 5 #[.int .i32 cp] w fun e w' => e = .returned (.bool true) ∧ Below w.heap.size w w' := by
  have d1 : decide (cp < 0) = false := decide_eq_false (by omega)
  have d2 : decide (2097151 < cp) = false := decide_eq_false (by omega)
  have d3 : decide (cp ≤ 1114111) = true := decide_eq_true (by omega)
  have d4 : decide (cp < 55296) = false := decide_eq_false (by omega)
  have d5 : decide (57343 < cp) = false := decide_eq_false (by omega)
  go_enter Try.func5, Try.ntmps5
  go_wp2_with fail
  refine (ENC.out _).mono ?_
  rintro e x1 ⟨rfl, bx⟩
  go_wp2
  go_loopw [7, 8, 9] (fun st tt i wr => ∃ k : Nat, k ≤ n ∧ i = .int .i64 k ∧ st = .int .i64 (Sk (bAt b0 b1 b2 b3) k) ∧ tt = .int .i64 (Tk (bAt b0 b1 b2 b3) k) ∧ Below (x1.heap.size + 1) (x1.alloc (.cells #[.int .i64 b0, .int .i64 b1, .int .i64 b2, .int .i64 b3] 28)) wr) (fun _ _ i _ => n - (intOf i).toNat)
  case atStart => exact ⟨0, Nat.zero_le _, rfl, rfl, rfl, Below.refl _ _⟩
  case round =>
    obtain ⟨k, hk, rfl, rfl, rfl, hb⟩ := hrel
    obtain ⟨sb0, sb1⟩ := Sk_bd (bAt b0 b1 b2 b3) k
    obtain ⟨tb0, tb1⟩ := Tk_bd (bAt b0 b1 b2 b3) k
    by_cases hlt : k < n
    · obtain ⟨ub0, ub1⟩ := usEx_bd (Sk (bAt b0 b1 b2 b3) k) (bf (bAt b0 b1 b2 b3 k))
      have hcell : wr.cell? ⟨x1.heap.size, k, none⟩ = some (.int .i64 (bAt b0 b1 b2 b3 k)) := by
        rw [hb.cell (p := ⟨x1.heap.size, k, none⟩) (Nat.lt_succ_self _)]
        exact four_cells _ _ _ _ _ _ (by omega)
      have hk4 : (k : Int) < 4 := by omega
      go_wp2_with fail
      refine (bf_calls _ _).mono ?_
      rintro e x2 ⟨rfl, hw⟩
      rw [hw]
      clear hw x2
      go_wp2_with fail
      refine (zzstep_calls _ _ _ sb0 sb1).mono ?_
      rintro e x2 ⟨rfl, hw⟩
      rw [hw]
      clear hw x2
      go_wp2
      go_roundw
      case rel => exact ⟨k + 1, by omega, by go_num, rfl, rfl, hb⟩
      case measure => simp [intOf]; omega
    · have hkn : k = n := by omega
      subst hkn
      obtain ⟨ub0, ub1⟩ := usEx_bd (Sk (bAt b0 b1 b2 b3) k) 0
      go_wp2_with fail
      refine (zzstep_calls _ _ _ sb0 sb1).mono ?_
      rintro e x2 ⟨rfl, hw⟩
      rw [hw, F1.out]
      clear hw x2
      have G : Hid ((Tk (bAt b0 b1 b2 b3) k + usEx (Sk (bAt b0 b1 b2 b3) k) 0 == 5 * (k : Int)) = true) := by
        show _ = _
        rw [F2.out]; exact beq_self_eq_true _
      go_wp2
      go_ret
      refine ⟨?_, ((bx.alloc bx.size _).trans (hb.mono (Nat.le_succ_of_le bx.size)))⟩
      exact ret_bool G.out

set_option maxHeartbeats 4000000 in
theorem runes_low (cp : Int) (n : Nat) (b0 b1 b2 b3 : Int) (w : World) (hc0 : 0 ≤ cp) (hc1 : cp ≤ 2097151) (hn : n ≤ 4)
    (ENC : Hid (∀ w, Calls Try.prog 14 #[.int .i64 cp] w fun e w' => e = .returned (.tuple #[.agg #[.int .i64 b0, .int .i64 b1, .int .i64 b2, .int .i64 b3], .int .i64 n]) ∧ Below w.heap.size w w'))
    (hx : cp < 55296)
    (F1 : Hid (usTo (Sk (bAt b0 b1 b2 b3) n) 0 = 0)) (F2 : Hid (Tk (bAt b0 b1 b2 b3) n + usEx (Sk (bAt b0 b1 b2 b3) n) 0 = if cp = 8232 ∨ cp = 8233 then 3 else 0))
    (F3 : Hid (∀ k, k + 1 < n → Sk (bAt b0 b1 b2 b3) (k + 1) = sOf b0 b1 ((k : Int) + 1) ∧ usEx (Sk (bAt b0 b1 b2 b3) k) (bf (bAt b0 b1 b2 b3 k)) = 0)) (F4 : Hid (∀ k, k + 1 = n → Sk (bAt b0 b1 b2 b3) (k + 1) = 0)) :
    Calls Try.prog 5 #[.int .i32 cp] w fun e w' => e = .returned (.bool true) ∧ Below w.heap.size w w' := by
  have d1 : decide (cp < 0) = false := decide_eq_false (by omega)
  have d2 : decide (2097151 < cp) = false := decide_eq_false (by omega)
  have d3 : decide (cp ≤ 1114111) = true := decide_eq_true (by omega)
  have d4 : decide (cp < 55296) = true := decide_eq_true (by omega)
  go_enter Try.func5, Try.ntmps5
  go_wp2_with fail
  refine (ENC.out _).mono ?_
  rintro e x1 ⟨rfl, bx⟩
  go_wp2
  go_loopw [7, 8, 9] (fun st tt i wr => ∃ k : Nat, k ≤ n ∧ i = .int .i64 k ∧ st = .int .i64 (Sk (bAt b0 b1 b2 b3) k) ∧ tt = .int .i64 (Tk (bAt b0 b1 b2 b3) k) ∧ Below (x1.heap.size + 1) (x1.alloc (.cells #[.int .i64 b0, .int .i64 b1, .int .i64 b2, .int .i64 b3] 28)) wr) (fun _ _ i _ => n - (intOf i).toNat)
  case atStart => exact ⟨0, Nat.zero_le _, rfl, rfl, rfl, Below.refl _ _⟩
  case round =>
    obtain ⟨k, hk, rfl, rfl, rfl, hb⟩ := hrel
    obtain ⟨sb0, sb1⟩ := Sk_bd (bAt b0 b1 b2 b3) k
    obtain ⟨tb0, tb1⟩ := Tk_bd (bAt b0 b1 b2 b3) k
    by_cases hlt : k < n
    · obtain ⟨ub0, ub1⟩ := usEx_bd (Sk (bAt b0 b1 b2 b3) k) (bf (bAt b0 b1 b2 b3 k))
      have hcell : wr.cell? ⟨x1.heap.size, k, none⟩ = some (.int .i64 (bAt b0 b1 b2 b3 k)) := by
        rw [hb.cell (p := ⟨x1.heap.size, k, none⟩) (Nat.lt_succ_self _)]
        exact four_cells _ _ _ _ _ _ (by omega)
      have hk4 : (k : Int) < 4 := by omega
      have hc : ∀ j, j < 4 → wr.cell? ⟨x1.heap.size, j, none⟩ = some (.int .i64 (bAt b0 b1 b2 b3 j)) := fun j hj => by
        rw [hb.cell (p := ⟨x1.heap.size, j, none⟩) (Nat.lt_succ_self _)]
        exact four_cells _ _ _ _ _ _ hj
      have c0 : wr.cell? ⟨x1.heap.size, 0, none⟩ = some (.int .i64 b0) := hc 0 (by omega)
      have c1 : wr.cell? ⟨x1.heap.size, 1, none⟩ = some (.int .i64 b1) := hc 1 (by omega)
      have c2 : wr.cell? ⟨x1.heap.size, 2, none⟩ = some (.int .i64 b2) := hc 2 (by omega)
      have c3 : wr.cell? ⟨x1.heap.size, 3, none⟩ = some (.int .i64 b3) := hc 3 (by omega)
      clear hc
      by_cases hl : k + 1 < n
      · have hl' : (k : Int) + 1 < (n : Int) := by omega
        obtain ⟨g1, g2⟩ := F3.out k hl
        have G1 : Hid (usTo (Sk (bAt b0 b1 b2 b3) k) (bf (bAt b0 b1 b2 b3 k)) = sOf b0 b1 ((k : Int) + 1)) := g1
        have G2 : Hid (usEx (Sk (bAt b0 b1 b2 b3) k) (bf (bAt b0 b1 b2 b3 k)) = 0) := g2
        clear g1 g2
        go_wp2_with fail
        refine (bf_calls _ _).mono ?_
        rintro e x2 ⟨rfl, hw⟩
        rw [hw]
        clear hw x2
        go_wp2_with fail
        refine (zzstep_calls _ _ _ sb0 sb1).mono ?_
        rintro e x2 ⟨rfl, hw⟩
        rw [hw]
        clear hw x2
        rw [G2.out, G1.out]
        go_wp2_with fail
        refine (sof_calls b0 b1 b2 b3 _ (by omega) (by omega) _).mono ?_
        rintro e x2 ⟨rfl, b2'⟩
        go_wp2
        go_roundw
        case rel => exact ⟨k + 1, by omega, by go_num, by rw [← G1.out]; rfl, by show Value.int .i64 _ = Value.int .i64 (Tk (bAt b0 b1 b2 b3) k + usEx (Sk (bAt b0 b1 b2 b3) k) (bf (bAt b0 b1 b2 b3 k))); rw [G2.out]; go_num, hb.trans (b2'.mono (by have := hb.size; simpa using this))⟩
        case measure => simp [intOf]; omega
      · have hl' : ¬ (k : Int) + 1 < (n : Int) := by omega
        have G1 : Hid (usTo (Sk (bAt b0 b1 b2 b3) k) (bf (bAt b0 b1 b2 b3 k)) = 0) := F4.out k (by omega)
        go_wp2_with fail
        refine (bf_calls _ _).mono ?_
        rintro e x2 ⟨rfl, hw⟩
        rw [hw]
        clear hw x2
        go_wp2_with fail
        refine (zzstep_calls _ _ _ sb0 sb1).mono ?_
        rintro e x2 ⟨rfl, hw⟩
        rw [hw]
        clear hw x2
        rw [G1.out]
        go_wp2
        go_roundw
        case rel => exact ⟨k + 1, by omega, by go_num, by rw [← G1.out]; rfl, rfl, hb⟩
        case measure => simp [intOf]; omega
    · have hkn : k = n := by omega
      subst hkn
      obtain ⟨ub0, ub1⟩ := usEx_bd (Sk (bAt b0 b1 b2 b3) k) 0
      go_wp2_with fail
      refine (zzstep_calls _ _ _ sb0 sb1).mono ?_
      rintro e x2 ⟨rfl, hw⟩
      rw [hw, F1.out]
      clear hw x2
      by_cases hs : cp = 8232 ∨ cp = 8233
      · have G : Hid ((Tk (bAt b0 b1 b2 b3) k + usEx (Sk (bAt b0 b1 b2 b3) k) 0 == 3) = true) := by
          show _ = _
          rw [F2.out, if_pos hs]; rfl
        rcases hs with rfl | rfl
        all_goals
          go_wp2
          go_ret
          refine ⟨?_, ((bx.alloc bx.size _).trans (hb.mono (Nat.le_succ_of_le bx.size)))⟩
          exact ret_bool G.out
      · have G : Hid ((Tk (bAt b0 b1 b2 b3) k + usEx (Sk (bAt b0 b1 b2 b3) k) 0 == 0) = true) := by
          show _ = _
          rw [F2.out, if_neg hs]; rfl
        have t1 : (cp == 8232) = false := by simp; omega
        have t2 : (cp == 8233) = false := by simp; omega
        clear hs
        go_wp2
        go_ret
        refine ⟨?_, ((bx.alloc bx.size _).trans (hb.mono (Nat.le_succ_of_le bx.size)))⟩
        exact ret_bool G.out

set_option maxHeartbeats 4000000 in
theorem runes_high (cp : Int) (n : Nat) (b0 b1 b2 b3 : Int) (w : World) (hc0 : 0 ≤ cp) (hc1 : cp ≤ 2097151) (hn : n ≤ 4)
    (ENC : Hid (∀ w, Calls Try.prog 14 #[.int .i64 cp] w fun e w' => e = .returned (.tuple #[.agg #[.int .i64 b0, .int .i64 b1, .int .i64 b2, .int .i64 b3], .int .i64 n]) ∧ Below w.heap.size w w'))
    (hx : 57343 < cp) (hy : cp ≤ 1114111)
    (F1 : Hid (usTo (Sk (bAt b0 b1 b2 b3) n) 0 = 0)) (F2 : Hid (Tk (bAt b0 b1 b2 b3) n + usEx (Sk (bAt b0 b1 b2 b3) n) 0 = if cp = 8232 ∨ cp = 8233 then 3 else 0))
    (F3 : Hid (∀ k, k + 1 < n → Sk (bAt b0 b1 b2 b3) (k + 1) = sOf b0 b1 ((k : Int) + 1) ∧ usEx (Sk (bAt b0 b1 b2 b3) k) (bf (bAt b0 b1 b2 b3 k)) = 0)) (F4 : Hid (∀ k, k + 1 = n → Sk (bAt b0 b1 b2 b3) (k + 1) = 0)) :
    Calls Try.prog 5 #[.int .i32 cp] w fun e w' => e = .returned (.bool true) ∧ Below w.heap.size w w' := by
  have d1 : decide (cp < 0) = false := decide_eq_false (by omega)
  have d2 : decide (2097151 < cp) = false := decide_eq_false (by omega)
  have d3 : decide (cp ≤ 1114111) = true := decide_eq_true (by omega)
  have d4 : decide (cp < 55296) = false := decide_eq_false (by omega)
  have d5 : decide (57343 < cp) = true := decide_eq_true (by omega)
  go_enter Try.func5, Try.ntmps5
  go_wp2_with fail
  refine (ENC.out _).mono ?_
  rintro e x1 ⟨rfl, bx⟩
  go_wp2
  go_loopw [7, 8, 9] (fun st tt i wr => ∃ k : Nat, k ≤ n ∧ i = .int .i64 k ∧ st = .int .i64 (Sk (bAt b0 b1 b2 b3) k) ∧ tt = .int .i64 (Tk (bAt b0 b1 b2 b3) k) ∧ Below (x1.heap.size + 1) (x1.alloc (.cells #[.int .i64 b0, .int .i64 b1, .int .i64 b2, .int .i64 b3] 28)) wr) (fun _ _ i _ => n - (intOf i).toNat)
  case atStart => exact ⟨0, Nat.zero_le _, rfl, rfl, rfl, Below.refl _ _⟩
  case round =>
    obtain ⟨k, hk, rfl, rfl, rfl, hb⟩ := hrel
    obtain ⟨sb0, sb1⟩ := Sk_bd (bAt b0 b1 b2 b3) k
    obtain ⟨tb0, tb1⟩ := Tk_bd (bAt b0 b1 b2 b3) k
    by_cases hlt : k < n
    · obtain ⟨ub0, ub1⟩ := usEx_bd (Sk (bAt b0 b1 b2 b3) k) (bf (bAt b0 b1 b2 b3 k))
      have hcell : wr.cell? ⟨x1.heap.size, k, none⟩ = some (.int .i64 (bAt b0 b1 b2 b3 k)) := by
        rw [hb.cell (p := ⟨x1.heap.size, k, none⟩) (Nat.lt_succ_self _)]
        exact four_cells _ _ _ _ _ _ (by omega)
      have hk4 : (k : Int) < 4 := by omega
      have hc : ∀ j, j < 4 → wr.cell? ⟨x1.heap.size, j, none⟩ = some (.int .i64 (bAt b0 b1 b2 b3 j)) := fun j hj => by
        rw [hb.cell (p := ⟨x1.heap.size, j, none⟩) (Nat.lt_succ_self _)]
        exact four_cells _ _ _ _ _ _ hj
      have c0 : wr.cell? ⟨x1.heap.size, 0, none⟩ = some (.int .i64 b0) := hc 0 (by omega)
      have c1 : wr.cell? ⟨x1.heap.size, 1, none⟩ = some (.int .i64 b1) := hc 1 (by omega)
      have c2 : wr.cell? ⟨x1.heap.size, 2, none⟩ = some (.int .i64 b2) := hc 2 (by omega)
      have c3 : wr.cell? ⟨x1.heap.size, 3, none⟩ = some (.int .i64 b3) := hc 3 (by omega)
      clear hc
      by_cases hl : k + 1 < n
      · have hl' : (k : Int) + 1 < (n : Int) := by omega
        obtain ⟨g1, g2⟩ := F3.out k hl
        have G1 : Hid (usTo (Sk (bAt b0 b1 b2 b3) k) (bf (bAt b0 b1 b2 b3 k)) = sOf b0 b1 ((k : Int) + 1)) := g1
        have G2 : Hid (usEx (Sk (bAt b0 b1 b2 b3) k) (bf (bAt b0 b1 b2 b3 k)) = 0) := g2
        clear g1 g2
        go_wp2_with fail
        refine (bf_calls _ _).mono ?_
        rintro e x2 ⟨rfl, hw⟩
        rw [hw]
        clear hw x2
        go_wp2_with fail
        refine (zzstep_calls _ _ _ sb0 sb1).mono ?_
        rintro e x2 ⟨rfl, hw⟩
        rw [hw]
        clear hw x2
        rw [G2.out, G1.out]
        go_wp2_with fail
        refine (sof_calls b0 b1 b2 b3 _ (by omega) (by omega) _).mono ?_
        rintro e x2 ⟨rfl, b2'⟩
        go_wp2
        go_roundw
        case rel => exact ⟨k + 1, by omega, by go_num, by rw [← G1.out]; rfl, by show Value.int .i64 _ = Value.int .i64 (Tk (bAt b0 b1 b2 b3) k + usEx (Sk (bAt b0 b1 b2 b3) k) (bf (bAt b0 b1 b2 b3 k))); rw [G2.out]; go_num, hb.trans (b2'.mono (by have := hb.size; simpa using this))⟩
        case measure => simp [intOf]; omega
      · have hl' : ¬ (k : Int) + 1 < (n : Int) := by omega
        have G1 : Hid (usTo (Sk (bAt b0 b1 b2 b3) k) (bf (bAt b0 b1 b2 b3 k)) = 0) := F4.out k (by omega)
        go_wp2_with fail
        refine (bf_calls _ _).mono ?_
        rintro e x2 ⟨rfl, hw⟩
        rw [hw]
        clear hw x2
        go_wp2_with fail
        refine (zzstep_calls _ _ _ sb0 sb1).mono ?_
        rintro e x2 ⟨rfl, hw⟩
        rw [hw]
        clear hw x2
        rw [G1.out]
        go_wp2
        go_roundw
        case rel => exact ⟨k + 1, by omega, by go_num, by rw [← G1.out]; rfl, rfl, hb⟩
        case measure => simp [intOf]; omega
    · have hkn : k = n := by omega
      subst hkn
      obtain ⟨ub0, ub1⟩ := usEx_bd (Sk (bAt b0 b1 b2 b3) k) 0
      go_wp2_with fail
      refine (zzstep_calls _ _ _ sb0 sb1).mono ?_
      rintro e x2 ⟨rfl, hw⟩
      rw [hw, F1.out]
      clear hw x2
      by_cases hs : cp = 8232 ∨ cp = 8233
      · omega
      · have G : Hid ((Tk (bAt b0 b1 b2 b3) k + usEx (Sk (bAt b0 b1 b2 b3) k) 0 == 0) = true) := by
          show _ = _
          rw [F2.out, if_neg hs]; rfl
        have t1 : (cp == 8232) = false := by simp; omega
        have t2 : (cp == 8233) = false := by simp; omega
        clear hs
        go_wp2
        go_ret
        refine ⟨?_, ((bx.alloc bx.size _).trans (hb.mono (Nat.le_succ_of_le bx.size)))⟩
        exact ret_bool G.out

end Go.Proofs.Qxb6605359a
