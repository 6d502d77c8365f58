import Derived.Test.Qxb6605359aSeq
namespace Go.Proofs.Qxb6605359a
open Go.RowKit

/-- The inner loop: how far the bytes behind s i are allowed ones. -/
def innA (s : Nat → Int) (c : Int) (i n : Nat) (need : Int) : Nat → Nat → Bool × Nat
  | 0, j => (true, j)
  | f + 1, j => if (j : Int) < need ∧ i + j < n then (if al c j (s (i + j)) = true then innA s c i n need f (j + 1) else (false, j)) else (true, j)

/-- The outer loop. -/
def decA (s : Nat → Int) (n : Nat) : Nat → Nat → Int → Int × Nat
  | 0, _, x => (x, n)
  | f + 1, i, x =>
    if i < n then
      (if s i < 128 then decA s n f (i + 1) x
       else if sl (s i) = 0 then decA s n f (i + 1) (x + 5)
       else if (innA s (s i) i n (sl (s i)) 4 1).1 = false then decA s n f (i + 1) (x + 5)
       else if ((innA s (s i) i n (sl (s i)) 4 1).2 : Int) < sl (s i) then (x, i)
       else decA s n f (i + (sl (s i)).toNat) (if rn s i (sl (s i)) = 8232 ∨ rn s i (sl (s i)) = 8233 then x + 3 else x))
    else (x, n)

theorem decA_end {s : Nat → Int} {n f i : Nat} {x : Int} (h : n ≤ i) : decA s n f i x = (x, n) := by
  cases f with
  | zero => rfl
  | succ f => show (if i < n then _ else _) = _; rw [if_neg (by omega)]
theorem decA_ascii {s : Nat → Int} {n f i : Nat} {x : Int} (h : i < n) (h1 : s i < 128) : decA s n (f + 1) i x = decA s n f (i + 1) x := by
  show (if i < n then _ else _) = _; rw [if_pos h, if_pos h1]
theorem decA_none {s : Nat → Int} {n f i : Nat} {x : Int} (h : i < n) (h1 : ¬ s i < 128) (h2 : sl (s i) = 0) : decA s n (f + 1) i x = decA s n f (i + 1) (x + 5) := by
  show (if i < n then _ else _) = _; rw [if_pos h, if_neg h1, if_pos h2]
theorem decA_bad {s : Nat → Int} {n f i j : Nat} {x : Int} (h : i < n) (h1 : ¬ s i < 128) (h2 : ¬ sl (s i) = 0) (h3 : innA s (s i) i n (sl (s i)) 4 1 = (false, j)) : decA s n (f + 1) i x = decA s n f (i + 1) (x + 5) := by
  show (if i < n then _ else _) = _; rw [if_pos h, if_neg h1, if_neg h2, if_pos (by rw [h3])]
theorem decA_open {s : Nat → Int} {n f i j : Nat} {x : Int} (h : i < n) (h1 : ¬ s i < 128) (h2 : ¬ sl (s i) = 0) (h3 : innA s (s i) i n (sl (s i)) 4 1 = (true, j)) (h4 : (j : Int) < sl (s i)) : decA s n (f + 1) i x = (x, i) := by
  show (if i < n then _ else _) = _; rw [if_pos h, if_neg h1, if_neg h2, if_neg (by rw [h3]; simp), if_pos (by rw [h3]; exact h4)]
theorem decA_whole {s : Nat → Int} {n f i j : Nat} {x : Int} (h : i < n) (h1 : ¬ s i < 128) (h2 : ¬ sl (s i) = 0) (h3 : innA s (s i) i n (sl (s i)) 4 1 = (true, j)) (h4 : ¬ (j : Int) < sl (s i)) :
    decA s n (f + 1) i x = decA s n f (i + (sl (s i)).toNat) (if rn s i (sl (s i)) = 8232 ∨ rn s i (sl (s i)) = 8233 then x + 3 else x) := by
  show (if i < n then _ else _) = _; rw [if_pos h, if_neg h1, if_neg h2, if_neg (by rw [h3]; simp), if_neg (by rw [h3]; exact h4)]

theorem innA_stop {s : Nat → Int} {c : Int} {i n : Nat} {need : Int} {f j : Nat} (h : ¬ ((j : Int) < need ∧ i + j < n)) : innA s c i n need f j = (true, j) := by
  cases f with
  | zero => rfl
  | succ f => show (if (j : Int) < need ∧ i + j < n then _ else _) = _; rw [if_neg h]
theorem innA_on {s : Nat → Int} {c : Int} {i n : Nat} {need : Int} {f j : Nat} (h : (j : Int) < need ∧ i + j < n) (h2 : al c j (s (i + j)) = true) : innA s c i n need (f + 1) j = innA s c i n need f (j + 1) := by
  show (if (j : Int) < need ∧ i + j < n then _ else _) = _; rw [if_pos h, if_pos h2]
theorem innA_bad {s : Nat → Int} {c : Int} {i n : Nat} {need : Int} {f j : Nat} (h : (j : Int) < need ∧ i + j < n) (h2 : al c j (s (i + j)) = false) : innA s c i n need (f + 1) j = (false, j) := by
  show (if (j : Int) < need ∧ i + j < n then _ else _) = _; rw [if_pos h, if_neg (by rw [h2]; simp)]

theorem pair_ret {x y : Int} {t : Nat} {r : Int × Nat} (h : (x, t) = r) (hy : y = (t : Int)) : Ending.returned (.tuple #[.int .i64 x, .int .i64 y]) = .returned (.tuple #[.int .i64 r.1, .int .i64 (r.2 : Int)]) := by
  subst h; rw [hy]

set_option maxHeartbeats 4000000 in
theorem dec_calls (s0 s1 s2 s3 : Int) (n : Nat) (hn : n ≤ 4) (w : World) :
    Calls Try.prog 12 #[.agg #[.int .i64 s0, .int .i64 s1, .int .i64 s2, .int .i64 s3], .int .i64 n] w fun e w' => e = .returned (.tuple #[.int .i64 (decA (bAt s0 s1 s2 s3) n 4 0 0).1, .int .i64 ((decA (bAt s0 s1 s2 s3) n 4 0 0).2 : Int)]) ∧ Below w.heap.size w w' := by
  go_enter Try.func12, Try.ntmps12
  go_wp2
  go_loopw [6, 7] (fun x i wr => ∃ (f k : Nat) (v : Int), k ≤ n ∧ n ≤ k + f ∧ i = .int .i64 k ∧ x = .int .i64 v ∧ 0 ≤ v ∧ v ≤ 5 * k ∧ Hid (decA (bAt s0 s1 s2 s3) n f k v = decA (bAt s0 s1 s2 s3) n 4 0 0) ∧ Below (w.heap.size + 1) (w.alloc (.cells #[.int .i64 s0, .int .i64 s1, .int .i64 s2, .int .i64 s3] 28)) wr) (fun _ i _ => n - (intOf i).toNat)
  case atStart => exact ⟨4, 0, 0, Nat.zero_le _, by omega, rfl, rfl, by omega, by omega, rfl, Below.refl _ _⟩
  case round =>
    obtain ⟨f, k, v, hk, hf, rfl, rfl, v0, v1, HD, hb⟩ := hrel
    by_cases hlt : k < n
    · have hcell : ∀ j, j < 4 → wr.cell? ⟨w.heap.size, j, none⟩ = some (.int .i64 (bAt s0 s1 s2 s3 j)) := fun j hj => by
        rw [hb.cell (p := ⟨w.heap.size, j, none⟩) (Nat.lt_succ_self _)]
        exact four_cells _ _ _ _ _ _ hj
      have HC : Hid (∀ j, j < 4 → wr.cell? ⟨w.heap.size, j, none⟩ = some (.int .i64 (bAt s0 s1 s2 s3 j))) := hcell
      have hck := hcell k (by omega)
      clear hcell
      have hk4 : (k : Int) < 4 := by omega
      obtain ⟨f, rfl⟩ : ∃ g, f = g + 1 := ⟨f - 1, by omega⟩
      by_cases ha : bAt s0 s1 s2 s3 k < 128
      · have HD' : Hid (decA (bAt s0 s1 s2 s3) n f (k + 1) v = decA (bAt s0 s1 s2 s3) n 4 0 0) := (decA_ascii hlt ha).symm.trans HD.out
        go_wp2
        go_roundw
        case rel => exact ⟨f, k + 1, v, by omega, by omega, by go_num, rfl, v0, by omega, HD', hb⟩
        case measure => simp [intOf]; omega
      · obtain ⟨l0, l4⟩ := sl_bd (bAt s0 s1 s2 s3 k)
        have HA : Hid (128 ≤ bAt s0 s1 s2 s3 k) := Int.not_lt.1 ha
        go_wp2_with fail
        refine (sl_calls _ _).mono ?_
        rintro e x2 ⟨rfl, hw⟩
        rw [hw]
        clear hw x2
        by_cases hz : sl (bAt s0 s1 s2 s3 k) = 0
        · have HD' : Hid (decA (bAt s0 s1 s2 s3) n f (k + 1) (v + 5) = decA (bAt s0 s1 s2 s3) n 4 0 0) := (decA_none hlt (Int.not_lt.2 HA.out) hz).symm.trans HD.out
          have t : (sl (bAt s0 s1 s2 s3 k) == 0) = true := by rw [hz]; rfl
          clear hz
          go_wp2
          go_roundw
          case rel => exact ⟨f, k + 1, v + 5, by omega, by omega, by go_num, rfl, by omega, by omega, HD', hb⟩
          case measure => simp [intOf]; omega
        · have t : (sl (bAt s0 s1 s2 s3 k) == 0) = false := by simp [hz]
          have hsl : 2 ≤ sl (bAt s0 s1 s2 s3 k) := by
            have : sl (bAt s0 s1 s2 s3 k) ≠ 1 := by unfold sl; repeat' split; all_goals omega
            omega
          have HZ : Hid (¬ sl (bAt s0 s1 s2 s3 k) = 0) := hz
          clear hz
          go_wp2
          go_loop [10, 11] (fun j g => ∃ q m : Nat, 1 ≤ q ∧ k + q ≤ n ∧ (q : Int) ≤ sl (bAt s0 s1 s2 s3 k) ∧ sl (bAt s0 s1 s2 s3 k) ≤ (q : Int) + m ∧ j = .int .i64 q ∧ g = .bool true ∧ Hid (innA (bAt s0 s1 s2 s3) (bAt s0 s1 s2 s3 k) k n (sl (bAt s0 s1 s2 s3 k)) m q = innA (bAt s0 s1 s2 s3) (bAt s0 s1 s2 s3 k) k n (sl (bAt s0 s1 s2 s3 k)) 4 1)) (fun j _ => 4 - (intOf j).toNat)
          case atStart => exact ⟨1, 4, by omega, by omega, by omega, by omega, rfl, rfl, rfl⟩
          case round =>
            obtain ⟨q, m, q1, qn, qs, qm, rfl, rfl, HI⟩ := hrel
            by_cases h1 : (q : Int) < sl (bAt s0 s1 s2 s3 k)
            · by_cases h2 : (k : Int) + (q : Int) < (n : Int)
              · have hcq : wr.cell? ⟨w.heap.size, k + q, none⟩ = some (.int .i64 (bAt s0 s1 s2 s3 (k + q))) := HC.out (k + q) (by omega)
                obtain ⟨m, rfl⟩ : ∃ g, m = g + 1 := ⟨m - 1, by omega⟩
                have hq4 : (k : Int) + (q : Int) < 4 := by omega
                go_wp2_with fail
                refine (al_calls _ _ _ _).mono ?_
                rintro e x2 ⟨rfl, hw⟩
                rw [hw]
                clear hw x2
                cases hal : al (bAt s0 s1 s2 s3 k) q (bAt s0 s1 s2 s3 (k + q))
                · have HI' : Hid (innA (bAt s0 s1 s2 s3) (bAt s0 s1 s2 s3 k) k n (sl (bAt s0 s1 s2 s3 k)) 4 1 = (false, q)) := HI.out.symm.trans (innA_bad ⟨h1, by omega⟩ hal)
                  have HD' : Hid (decA (bAt s0 s1 s2 s3) n f (k + 1) (v + 5) = decA (bAt s0 s1 s2 s3) n 4 0 0) := (decA_bad hlt (Int.not_lt.2 HA.out) HZ.out HI'.out).symm.trans HD.out
                  clear hal
                  go_wp2
                  go_roundw
                  case rel => exact ⟨f, k + 1, v + 5, by omega, by omega, by go_num, rfl, by omega, by omega, HD', hb⟩
                  case measure => simp [intOf]; omega
                · have HI' : Hid (innA (bAt s0 s1 s2 s3) (bAt s0 s1 s2 s3 k) k n (sl (bAt s0 s1 s2 s3 k)) m (q + 1) = innA (bAt s0 s1 s2 s3) (bAt s0 s1 s2 s3 k) k n (sl (bAt s0 s1 s2 s3 k)) 4 1) := (innA_on ⟨h1, by omega⟩ hal).symm.trans HI.out
                  clear hal
                  go_wp2
                  go_round
                  case rel => exact ⟨q + 1, m, by omega, by omega, by omega, by omega, by go_num, rfl, HI'⟩
                  case measure => simp [intOf]; omega
              · have HI' : Hid (innA (bAt s0 s1 s2 s3) (bAt s0 s1 s2 s3 k) k n (sl (bAt s0 s1 s2 s3 k)) 4 1 = (true, q)) := HI.out.symm.trans (innA_stop (by omega))
                have HE : Hid ((v, k) = decA (bAt s0 s1 s2 s3) n 4 0 0) := (decA_open hlt (Int.not_lt.2 HA.out) HZ.out HI'.out h1).symm.trans HD.out
                go_wp2
                go_ret2
                exact ⟨pair_ret HE.out rfl, ((Below.refl _ _).alloc (Nat.le_refl _) _).trans (hb.mono (Nat.le_succ _))⟩
            · have HI' : Hid (innA (bAt s0 s1 s2 s3) (bAt s0 s1 s2 s3 k) k n (sl (bAt s0 s1 s2 s3 k)) 4 1 = (true, q)) := HI.out.symm.trans (innA_stop (by omega))
              have HD0 := (decA_whole (f := f) (x := v) hlt (Int.not_lt.2 HA.out) HZ.out HI'.out h1).symm.trans HD.out
              have HD1 : Hid (decA (bAt s0 s1 s2 s3) n f (k + (sl (bAt s0 s1 s2 s3 k)).toNat) (if rn (bAt s0 s1 s2 s3) k (sl (bAt s0 s1 s2 s3 k)) = 8232 ∨ rn (bAt s0 s1 s2 s3) k (sl (bAt s0 s1 s2 s3 k)) = 8233 then v + 3 else v) = decA (bAt s0 s1 s2 s3) n 4 0 0) := HD0
              clear HD0
              have c0 : wr.cell? ⟨w.heap.size, 0, none⟩ = some (.int .i64 s0) := HC.out 0 (by omega)
              have c1 : wr.cell? ⟨w.heap.size, 1, none⟩ = some (.int .i64 s1) := HC.out 1 (by omega)
              have c2 : wr.cell? ⟨w.heap.size, 2, none⟩ = some (.int .i64 s2) := HC.out 2 (by omega)
              have c3 : wr.cell? ⟨w.heap.size, 3, none⟩ = some (.int .i64 s3) := HC.out 3 (by omega)
              go_wp2_with fail
              refine (rune_calls s0 s1 s2 s3 _ _ (by omega) _).mono ?_
              rintro e x2 ⟨rfl, bx⟩
              have hb2 := hb.trans (bx.mono (by have := hb.size; simpa using this))
              by_cases hr : rn (bAt s0 s1 s2 s3) k (sl (bAt s0 s1 s2 s3 k)) = 8232 ∨ rn (bAt s0 s1 s2 s3) k (sl (bAt s0 s1 s2 s3 k)) = 8233
              · rw [if_pos hr] at HD1
                rcases hr with hr | hr
                all_goals
                  rw [hr]
                  clear hr
                  go_wp2
                  go_roundw
                  case rel => exact ⟨f, k + (sl (bAt s0 s1 s2 s3 k)).toNat, v + 3, by omega, by omega, by go_num, rfl, by omega, by omega, HD1, hb2⟩
                  case measure => simp [intOf]; omega
              · rw [if_neg hr] at HD1
                have t1 : (rn (bAt s0 s1 s2 s3) k (sl (bAt s0 s1 s2 s3 k)) == 8232) = false := by simp; omega
                have t2 : (rn (bAt s0 s1 s2 s3) k (sl (bAt s0 s1 s2 s3 k)) == 8233) = false := by simp; omega
                clear hr
                go_wp2
                go_roundw
                case rel => exact ⟨f, k + (sl (bAt s0 s1 s2 s3 k)).toNat, v, by omega, by omega, by go_num, rfl, by omega, by omega, HD1, hb2⟩
                case measure => simp [intOf]; omega
    · have HE : Hid ((v, n) = decA (bAt s0 s1 s2 s3) n 4 0 0) := (decA_end (by omega)).symm.trans HD.out
      go_wp2
      go_ret2
      exact ⟨pair_ret HE.out rfl, ((Below.refl _ _).alloc (Nat.le_refl _) _).trans (hb.mono (Nat.le_succ _))⟩
end Go.Proofs.Qxb6605359a
