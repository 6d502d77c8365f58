import Derived.Test.Qxb6605359aDecLaw
import Derived.Test.Qxb6605359aTable
namespace Go.Proofs.Qxb6605359a
open Go.RowKit

theorem pre_calls (o : Int) (w : World) (h0 : 0 ≤ o) (h1 : o ≤ 12) : Calls Try.prog 11 #[.int .i64 o] w fun e w' => e = .returned (.tuple #[.agg #[.int .i64 (pA o), .int .i64 (pB o), .int .i64 (pC o), .int .i64 0], .int .i64 (ob o)]) ∧ Below w.heap.size w w' := by
  rcases upto12 h0 h1 with rfl | rfl | rfl | rfl | rfl | rfl | rfl | rfl | rfl | rfl | rfl | rfl | rfl
  · exact pre0 w
  · exact pre1 w
  · exact pre2 w
  · exact pre3 w
  · exact pre4 w
  · exact pre5 w
  · exact pre6 w
  · exact pre7 w
  · exact pre8 w
  · exact pre9 w
  · exact pre10 w
  · exact pre11 w
  · exact pre12 w

theorem ob_four (o : Int) : ob o = 0 ∨ ob o = 1 ∨ ob o = 2 ∨ ob o = 3 := by have := ob_bd o; omega

set_option maxHeartbeats 4000000 in
theorem agree_in (o f : Int) (w : World) (o0 : 0 ≤ o) (o1 : o ≤ 12) (f0 : 0 ≤ f) (f1 : f ≤ 14) :
    Calls Try.prog 4 #[.int .i64 o, .int .i64 f] w fun e w' => e = .returned (.bool true) ∧ Below w.heap.size w w' := by
  have d1 : decide (o < 0) = false := decide_eq_false (by omega)
  have d2 : decide (13 ≤ o) = false := decide_eq_false (by omega)
  have d3 : decide (f < 0) = false := decide_eq_false (by omega)
  have d4 : decide (14 < f) = false := decide_eq_false (by omega)
  have FIN : Hid (sn f 256 = true) := sn_all f f0 f1
  go_enter Try.func4, Try.ntmps4
  go_wp2_with fail
  refine (zzstep_calls _ _ _ o0 o1).mono ?_
  rintro e x1 ⟨rfl, hw⟩
  rw [hw]
  clear hw x1
  go_wp2
  go_loopw [7, 8] (fun s i wr => ∃ k : Nat, k ≤ 256 ∧ i = .int .i64 k ∧ s = .bool (sn f k) ∧ Below w.heap.size w wr) (fun _ i _ => 256 - (intOf i).toNat)
  case atStart => exact ⟨0, Nat.zero_le _, rfl, rfl, Below.refl _ _⟩
  case round =>
    obtain ⟨k, hk, rfl, rfl, hb⟩ := hrel
    by_cases hlt : k < 256
    · have hlt' : (k : Int) < 256 := by omega
      by_cases hit : bf (k : Int) = f
      · have HS : Hid (sn f (k + 1) = true) := sn_hit hit
        have HH : Hid (bf (k : Int) = f) := hit
        clear hit
        go_wp2_with fail
        refine (bf_calls _ _).mono ?_
        rintro e x2 ⟨rfl, hw⟩
        rw [hw, HH.out]
        clear hw x2
        go_wp2_with fail
        refine (pre_calls _ _ o0 o1).mono ?_
        rintro e x1 ⟨rfl, b1⟩
        have hb1 := hb.trans (b1.mono hb.size)
        rcases ob_four o with hn | hn | hn | hn
        · obtain ⟨T, hT, hor⟩ := pl0 o k o0 o1 hlt hn
          rw [HH.out] at hT hor
          rw [hn]
          have HT : Hid (decA (bAt (k : Int) (pB o) (pC o) 0) 1 4 0 0 = (usEx o f, T)) := hT
          clear hT hn
          go_wp2_with fail
          refine (dec_calls (k : Int) (pB o) (pC o) 0 1 (by omega) _).mono ?_
          rintro e x2 ⟨rfl, b2⟩
          rw [HT.out]
          have hc : ∀ j, j < 4 → x2.cell? ⟨x1.heap.size, j, none⟩ = some (.int .i64 (bAt (k : Int) (pB o) (pC o) 0 j)) := fun j hj => by
            rw [b2.cell (p := ⟨x1.heap.size, j, none⟩) (by simp)]
            exact four_cells _ _ _ _ _ _ hj
          have c0 : x2.cell? ⟨x1.heap.size, 0, none⟩ = some (.int .i64 ((k : Int))) := hc 0 (by omega)
          have c1 : x2.cell? ⟨x1.heap.size, 1, none⟩ = some (.int .i64 (pB o)) := hc 1 (by omega)
          have c2 : x2.cell? ⟨x1.heap.size, 2, none⟩ = some (.int .i64 (pC o)) := hc 2 (by omega)
          have c3 : x2.cell? ⟨x1.heap.size, 3, none⟩ = some (.int .i64 (0)) := hc 3 (by omega)
          clear hc
          have hz : x1.heap.size < x2.heap.size := by have := b2.size; simp at this; omega
          have hb2 := (hb1.alloc hb1.size (.cells #[.int .i64 ((k : Int)), .int .i64 (pB o), .int .i64 (pC o), .int .i64 (0)] 28)).trans (b2.mono (by have := hb1.size; simp; omega))
          rcases hor with ⟨rfl, hto⟩ | ⟨rfl, hto⟩
          · have HTO : Hid (usTo o f = sOf (k : Int) 0 1) := hto
            clear hto
            go_wp2
            refine wp_loop_rounds 2 ?_
            rw [rounds_succ]
            go_wp2_with fail
            rw [rounds_succ]
            go_wp2_with fail
            refine (sof_calls _ _ _ _ _ (by omega) (by omega) _).mono ?_
            rintro e x3 ⟨rfl, b3⟩
            rw [← HTO.out]
            go_wp2
            go_roundw
            case rel => exact ⟨k + 1, by omega, by go_num, bool_eq HS.out.symm, (hb2.alloc hb2.size _).trans (b3.mono (by have := hb2.size; simp; omega))⟩
            case measure => simp [intOf]; omega
          · have HTO : Hid (usTo o f = sOf 0 0 0) := hto
            clear hto
            go_wp2
            refine wp_loop_rounds 1 ?_
            rw [rounds_succ]
            go_wp2_with fail
            refine (sof_calls _ _ _ _ _ (by omega) (by omega) _).mono ?_
            rintro e x3 ⟨rfl, b3⟩
            rw [← HTO.out]
            go_wp2
            go_roundw
            case rel => exact ⟨k + 1, by omega, by go_num, bool_eq HS.out.symm, (hb2.alloc hb2.size _).trans (b3.mono (by have := hb2.size; simp; omega))⟩
            case measure => simp [intOf]; omega
        · obtain ⟨T, hT, hor⟩ := pl1 o k o0 o1 hlt hn
          rw [HH.out] at hT hor
          rw [hn]
          have HT : Hid (decA (bAt (pA o) (k : Int) (pC o) 0) 2 4 0 0 = (usEx o f, T)) := hT
          clear hT hn
          go_wp2_with fail
          refine (dec_calls (pA o) (k : Int) (pC o) 0 2 (by omega) _).mono ?_
          rintro e x2 ⟨rfl, b2⟩
          rw [HT.out]
          have hc : ∀ j, j < 4 → x2.cell? ⟨x1.heap.size, j, none⟩ = some (.int .i64 (bAt (pA o) (k : Int) (pC o) 0 j)) := fun j hj => by
            rw [b2.cell (p := ⟨x1.heap.size, j, none⟩) (by simp)]
            exact four_cells _ _ _ _ _ _ hj
          have c0 : x2.cell? ⟨x1.heap.size, 0, none⟩ = some (.int .i64 (pA o)) := hc 0 (by omega)
          have c1 : x2.cell? ⟨x1.heap.size, 1, none⟩ = some (.int .i64 ((k : Int))) := hc 1 (by omega)
          have c2 : x2.cell? ⟨x1.heap.size, 2, none⟩ = some (.int .i64 (pC o)) := hc 2 (by omega)
          have c3 : x2.cell? ⟨x1.heap.size, 3, none⟩ = some (.int .i64 (0)) := hc 3 (by omega)
          clear hc
          have hz : x1.heap.size < x2.heap.size := by have := b2.size; simp at this; omega
          have hb2 := (hb1.alloc hb1.size (.cells #[.int .i64 (pA o), .int .i64 ((k : Int)), .int .i64 (pC o), .int .i64 (0)] 28)).trans (b2.mono (by have := hb1.size; simp; omega))
          rcases hor with ⟨rfl, hto⟩ | ⟨rfl, hto⟩ | ⟨rfl, hto⟩
          · have HTO : Hid (usTo o f = sOf (pA o) (k : Int) 2) := hto
            clear hto
            go_wp2
            refine wp_loop_rounds 3 ?_
            rw [rounds_succ]
            go_wp2_with fail
            rw [rounds_succ]
            go_wp2_with fail
            rw [rounds_succ]
            go_wp2_with fail
            refine (sof_calls _ _ _ _ _ (by omega) (by omega) _).mono ?_
            rintro e x3 ⟨rfl, b3⟩
            rw [← HTO.out]
            go_wp2
            go_roundw
            case rel => exact ⟨k + 1, by omega, by go_num, bool_eq HS.out.symm, (hb2.alloc hb2.size _).trans (b3.mono (by have := hb2.size; simp; omega))⟩
            case measure => simp [intOf]; omega
          · have HTO : Hid (usTo o f = sOf (k : Int) 0 1) := hto
            clear hto
            go_wp2
            refine wp_loop_rounds 2 ?_
            rw [rounds_succ]
            go_wp2_with fail
            rw [rounds_succ]
            go_wp2_with fail
            refine (sof_calls _ _ _ _ _ (by omega) (by omega) _).mono ?_
            rintro e x3 ⟨rfl, b3⟩
            rw [← HTO.out]
            go_wp2
            go_roundw
            case rel => exact ⟨k + 1, by omega, by go_num, bool_eq HS.out.symm, (hb2.alloc hb2.size _).trans (b3.mono (by have := hb2.size; simp; omega))⟩
            case measure => simp [intOf]; omega
          · have HTO : Hid (usTo o f = sOf 0 0 0) := hto
            clear hto
            go_wp2
            refine wp_loop_rounds 1 ?_
            rw [rounds_succ]
            go_wp2_with fail
            refine (sof_calls _ _ _ _ _ (by omega) (by omega) _).mono ?_
            rintro e x3 ⟨rfl, b3⟩
            rw [← HTO.out]
            go_wp2
            go_roundw
            case rel => exact ⟨k + 1, by omega, by go_num, bool_eq HS.out.symm, (hb2.alloc hb2.size _).trans (b3.mono (by have := hb2.size; simp; omega))⟩
            case measure => simp [intOf]; omega
        · obtain ⟨T, hT, hor⟩ := pl2 o k o0 o1 hlt hn
          rw [HH.out] at hT hor
          rw [hn]
          have HT : Hid (decA (bAt (pA o) (pB o) (k : Int) 0) 3 4 0 0 = (usEx o f, T)) := hT
          clear hT hn
          go_wp2_with fail
          refine (dec_calls (pA o) (pB o) (k : Int) 0 3 (by omega) _).mono ?_
          rintro e x2 ⟨rfl, b2⟩
          rw [HT.out]
          have hc : ∀ j, j < 4 → x2.cell? ⟨x1.heap.size, j, none⟩ = some (.int .i64 (bAt (pA o) (pB o) (k : Int) 0 j)) := fun j hj => by
            rw [b2.cell (p := ⟨x1.heap.size, j, none⟩) (by simp)]
            exact four_cells _ _ _ _ _ _ hj
          have c0 : x2.cell? ⟨x1.heap.size, 0, none⟩ = some (.int .i64 (pA o)) := hc 0 (by omega)
          have c1 : x2.cell? ⟨x1.heap.size, 1, none⟩ = some (.int .i64 (pB o)) := hc 1 (by omega)
          have c2 : x2.cell? ⟨x1.heap.size, 2, none⟩ = some (.int .i64 ((k : Int))) := hc 2 (by omega)
          have c3 : x2.cell? ⟨x1.heap.size, 3, none⟩ = some (.int .i64 (0)) := hc 3 (by omega)
          clear hc
          have hz : x1.heap.size < x2.heap.size := by have := b2.size; simp at this; omega
          have hb2 := (hb1.alloc hb1.size (.cells #[.int .i64 (pA o), .int .i64 (pB o), .int .i64 ((k : Int)), .int .i64 (0)] 28)).trans (b2.mono (by have := hb1.size; simp; omega))
          rcases hor with ⟨rfl, hto⟩ | ⟨rfl, hto⟩ | ⟨rfl, hto⟩
          · have HTO : Hid (usTo o f = sOf (pA o) (pB o) 3) := hto
            clear hto
            go_wp2
            refine wp_loop_rounds 4 ?_
            rw [rounds_succ]
            go_wp2_with fail
            rw [rounds_succ]
            go_wp2_with fail
            rw [rounds_succ]
            go_wp2_with fail
            rw [rounds_succ]
            go_wp2_with fail
            refine (sof_calls _ _ _ _ _ (by omega) (by omega) _).mono ?_
            rintro e x3 ⟨rfl, b3⟩
            rw [← HTO.out]
            go_wp2
            go_roundw
            case rel => exact ⟨k + 1, by omega, by go_num, bool_eq HS.out.symm, (hb2.alloc hb2.size _).trans (b3.mono (by have := hb2.size; simp; omega))⟩
            case measure => simp [intOf]; omega
          · have HTO : Hid (usTo o f = sOf (k : Int) 0 1) := hto
            clear hto
            go_wp2
            refine wp_loop_rounds 2 ?_
            rw [rounds_succ]
            go_wp2_with fail
            rw [rounds_succ]
            go_wp2_with fail
            refine (sof_calls _ _ _ _ _ (by omega) (by omega) _).mono ?_
            rintro e x3 ⟨rfl, b3⟩
            rw [← HTO.out]
            go_wp2
            go_roundw
            case rel => exact ⟨k + 1, by omega, by go_num, bool_eq HS.out.symm, (hb2.alloc hb2.size _).trans (b3.mono (by have := hb2.size; simp; omega))⟩
            case measure => simp [intOf]; omega
          · have HTO : Hid (usTo o f = sOf 0 0 0) := hto
            clear hto
            go_wp2
            refine wp_loop_rounds 1 ?_
            rw [rounds_succ]
            go_wp2_with fail
            refine (sof_calls _ _ _ _ _ (by omega) (by omega) _).mono ?_
            rintro e x3 ⟨rfl, b3⟩
            rw [← HTO.out]
            go_wp2
            go_roundw
            case rel => exact ⟨k + 1, by omega, by go_num, bool_eq HS.out.symm, (hb2.alloc hb2.size _).trans (b3.mono (by have := hb2.size; simp; omega))⟩
            case measure => simp [intOf]; omega
        · obtain ⟨T, hT, hor⟩ := pl3 o k o0 o1 hlt hn
          rw [HH.out] at hT hor
          rw [hn]
          have HT : Hid (decA (bAt (pA o) (pB o) (pC o) (k : Int)) 4 4 0 0 = (usEx o f, T)) := hT
          clear hT hn
          go_wp2_with fail
          refine (dec_calls (pA o) (pB o) (pC o) (k : Int) 4 (by omega) _).mono ?_
          rintro e x2 ⟨rfl, b2⟩
          rw [HT.out]
          have hc : ∀ j, j < 4 → x2.cell? ⟨x1.heap.size, j, none⟩ = some (.int .i64 (bAt (pA o) (pB o) (pC o) (k : Int) j)) := fun j hj => by
            rw [b2.cell (p := ⟨x1.heap.size, j, none⟩) (by simp)]
            exact four_cells _ _ _ _ _ _ hj
          have c0 : x2.cell? ⟨x1.heap.size, 0, none⟩ = some (.int .i64 (pA o)) := hc 0 (by omega)
          have c1 : x2.cell? ⟨x1.heap.size, 1, none⟩ = some (.int .i64 (pB o)) := hc 1 (by omega)
          have c2 : x2.cell? ⟨x1.heap.size, 2, none⟩ = some (.int .i64 (pC o)) := hc 2 (by omega)
          have c3 : x2.cell? ⟨x1.heap.size, 3, none⟩ = some (.int .i64 ((k : Int))) := hc 3 (by omega)
          clear hc
          have hz : x1.heap.size < x2.heap.size := by have := b2.size; simp at this; omega
          have hb2 := (hb1.alloc hb1.size (.cells #[.int .i64 (pA o), .int .i64 (pB o), .int .i64 (pC o), .int .i64 ((k : Int))] 28)).trans (b2.mono (by have := hb1.size; simp; omega))
          rcases hor with ⟨rfl, hto⟩ | ⟨rfl, hto⟩
          · have HTO : Hid (usTo o f = sOf (k : Int) 0 1) := hto
            clear hto
            go_wp2
            refine wp_loop_rounds 2 ?_
            rw [rounds_succ]
            go_wp2_with fail
            rw [rounds_succ]
            go_wp2_with fail
            refine (sof_calls _ _ _ _ _ (by omega) (by omega) _).mono ?_
            rintro e x3 ⟨rfl, b3⟩
            rw [← HTO.out]
            go_wp2
            go_roundw
            case rel => exact ⟨k + 1, by omega, by go_num, bool_eq HS.out.symm, (hb2.alloc hb2.size _).trans (b3.mono (by have := hb2.size; simp; omega))⟩
            case measure => simp [intOf]; omega
          · have HTO : Hid (usTo o f = sOf 0 0 0) := hto
            clear hto
            go_wp2
            refine wp_loop_rounds 1 ?_
            rw [rounds_succ]
            go_wp2_with fail
            refine (sof_calls _ _ _ _ _ (by omega) (by omega) _).mono ?_
            rintro e x3 ⟨rfl, b3⟩
            rw [← HTO.out]
            go_wp2
            go_roundw
            case rel => exact ⟨k + 1, by omega, by go_num, bool_eq HS.out.symm, (hb2.alloc hb2.size _).trans (b3.mono (by have := hb2.size; simp; omega))⟩
            case measure => simp [intOf]; omega
      · have HS : Hid (sn f (k + 1) = sn f k) := sn_miss hit
        have t : (bf (k : Int) != f) = true := by rw [bne_iff_ne]; exact hit
        clear hit
        go_wp2_with fail
        refine (bf_calls _ _).mono ?_
        rintro e x2 ⟨rfl, hw⟩
        rw [hw]
        clear hw x2
        go_wp2
        go_roundw
        case rel => exact ⟨k + 1, by omega, by go_num, bool_eq HS.out.symm, hb⟩
        case measure => simp [intOf]; omega
    · have hkn : k = 256 := by omega
      subst hkn
      go_wp2
      go_ret
      exact ⟨ret_boolv FIN.out, hb⟩

theorem agree_walk (o f : Int) (w : World) :
    Calls Try.prog 4 #[.int .i64 o, .int .i64 f] w fun e w' => e = .returned (.bool true) ∧ Below w.heap.size w w' := by
  by_cases h1 : o < 0
  · have d1 : decide (o < 0) = true := decide_eq_true h1
    go_enter Try.func4, Try.ntmps4
    go_wp2
    go_ret
    exact ⟨rfl, Below.refl _ _⟩
  have d1 : decide (o < 0) = false := decide_eq_false h1
  by_cases h2 : 13 ≤ o
  · have d2 : decide (13 ≤ o) = true := decide_eq_true h2
    go_enter Try.func4, Try.ntmps4
    go_wp2
    go_ret
    exact ⟨rfl, Below.refl _ _⟩
  have d2 : decide (13 ≤ o) = false := decide_eq_false h2
  by_cases h3 : f < 0
  · have d3 : decide (f < 0) = true := decide_eq_true h3
    go_enter Try.func4, Try.ntmps4
    go_wp2
    go_ret
    exact ⟨rfl, Below.refl _ _⟩
  have d3 : decide (f < 0) = false := decide_eq_false h3
  by_cases h4 : 14 < f
  · have d4 : decide (14 < f) = true := decide_eq_true h4
    go_enter Try.func4, Try.ntmps4
    go_wp2
    go_ret
    exact ⟨rfl, Below.refl _ _⟩
  exact agree_in o f w (by omega) (by omega) (by omega) (by omega)

end Go.Proofs.Qxb6605359a
