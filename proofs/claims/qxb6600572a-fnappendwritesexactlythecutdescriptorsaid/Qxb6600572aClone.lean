import Derived.Test.Qxb6600572aDesc
namespace Go.Proofs.Qxb6600572a
open Go.RowKit

/-! ### cloneBytes (function 9) -/
theorem eql_nil (a : Option Addr) (l c : Nat) (w : World) : (binOp .eql 25 (.slice a l c) (.slice none 0 0)).run Try.prog w = .ok (.bool a.isNone) w :=
  Lib.run_eql_slice_nil w 25 5 a l c 0 0 Try.underlying25

theorem clone_nil (w : World) : Calls Try.prog 9 #[.slice none 0 0] w fun e w' => e = .returned (.slice none 0 0) ∧ w' = w := by
  have h := eql_nil none 0 0
  go_enter Try.func9, Try.ntmps9
  go_wp2
  go_ret
  exact ⟨rfl, rfl⟩

theorem clone_empty (x : Addr) (cap : Nat) (w : World) : Calls Try.prog 9 #[.slice (some x) 0 cap] w fun e w' => e = .returned (.slice (some ⟨w.heap.size, 0, none⟩) 0 0) ∧ Below w.heap.size w w' := by
  have h := eql_nil (some x) 0 cap
  obtain ⟨i, hi, hz0, hz1, hz2⟩ := info_parts info5
  obtain ⟨w1, hmk, hown, hg⟩ := run_makeSlice_full (P := Try.prog) w w.heap.size 25 5 i (.int .u8 0) 1 Try.underlying25 hi hz0 hz1 .i64 .i64 0 (by omega) (by omega) (by unfold maxLen; omega) (Nat.le_refl _)
  have hb : Below w.heap.size w w1 := (Below.refl _ _).grown hg (Nat.le_refl _) (fun k hk => by cases hk)
  clear hown hg hi hz0 hz1 hz2
  have hmk' : (Instr.makeSlice 25 (.int .i64 0) (.int .i64 0)).run Try.prog w = .ok (.slice (some ⟨w.heap.size, 0, none⟩) 0 0) w1 := hmk
  clear hmk
  go_enter Try.func9, Try.ntmps9
  go_wp2
  refine wp_loop_rounds 1 ?_
  rw [rounds_succ]
  go_wp2
  go_ret
  exact ⟨rfl, hb⟩

def mid (zs : List Int) (k : Nat) : List Int := zs.take k ++ List.replicate (zs.length - k) 0
theorem mid_zero (zs : List Int) : mid zs 0 = List.replicate zs.length 0 := by simp [mid]
theorem mid_all (zs : List Int) : mid zs zs.length = zs := by simp [mid]
theorem mid_len (zs : List Int) (k : Nat) (h : k ≤ zs.length) : (mid zs k).length = zs.length := by simp [mid]; omega
theorem mid_step (zs : List Int) (k : Nat) (h : k < zs.length) : (mid zs k).set k (zs.getD k 0) = mid zs (k + 1) := by
  have e0 : zs.getD k 0 = zs[k] := by simp [List.getD, h]
  rw [e0]
  unfold mid
  rw [List.set_append, List.length_take, Nat.min_eq_left (by omega), if_neg (by omega), Nat.sub_self]
  obtain ⟨m, hm⟩ : ∃ m, zs.length - k = m + 1 := ⟨zs.length - k - 1, by omega⟩
  have hm' : zs.length - (k + 1) = m := by omega
  rw [hm, hm', List.replicate_succ, List.set_cons_zero, List.take_succ_eq_append_getElem h, List.append_assoc]
  rfl

set_option maxHeartbeats 1000000 in
theorem clone_some (b off cap : Nat) (zs : List Int) (w : World) (hz : 0 < zs.length) (hl : zs.length ≤ 1048576) (hb : b < w.heap.size) (hc : ∀ j, j < zs.length → w.cell? ⟨b, off + j, none⟩ = some (.int .u8 (zs.getD j 0))) :
    Calls Try.prog 9 #[.slice (some ⟨b, off, none⟩) zs.length cap] w fun e w' => e = .returned (.slice (some ⟨w.heap.size, 0, none⟩) zs.length zs.length) ∧ w'.ownsRow w.heap.size 5 1 (.slice (some ⟨w.heap.size, 0, none⟩) zs.length zs.length) zs.length (zs.map (.int .u8)) ∧ Below w.heap.size w w' := by
  have h := eql_nil (some ⟨b, off, none⟩) zs.length cap
  obtain ⟨i, hi, hz0, hz1, hz2⟩ := info_parts info5
  obtain ⟨w1, hmk, hown, hg⟩ := run_makeSlice_full (P := Try.prog) w w.heap.size 25 5 i (.int .u8 0) 1 Try.underlying25 hi hz0 hz1 .i64 .i64 zs.length (by omega) (by rw [hz2]; omega) (by unfold maxLen; omega) (Nat.le_refl _)
  have hbl : Below w.heap.size w w1 := (Below.refl _ _).grown hg (Nat.le_refl _) (fun k hk => by cases hk)
  have ho1 : w1.ownsRow w.heap.size 5 1 (.slice (some ⟨w.heap.size, 0, none⟩) zs.length zs.length) zs.length ((mid zs 0).map (.int .u8)) := by
    have e : (madeCells (Value.int .u8 0).cells (zs.length * 1)).toList = (mid zs 0).map (.int .u8) := by
      rw [mid_zero, Nat.mul_one]
      show (madeCells #[Value.int .u8 0] zs.length).toList = _
      rw [toList_madeCells_one]; simp
    rw [e] at hown
    exact hown
  clear hown hg hi hz0 hz1 hz2
  have HC : Hid (∀ j, j < zs.length → w.cell? ⟨b, off + j, none⟩ = some (.int .u8 (zs.getD j 0))) := hc
  clear hc
  go_enter Try.func9, Try.ntmps9
  go_wp2
  clear hmk h
  go_loopw [4] (fun i wr => ∃ k : Nat, k ≤ zs.length ∧ i = .int .i64 k ∧ wr.ownsRow w.heap.size 5 1 (.slice (some ⟨w.heap.size, 0, none⟩) zs.length zs.length) zs.length ((mid zs k).map (.int .u8)) ∧ Below w.heap.size w wr) (fun i _ => zs.length - (intOf i).toNat)
  case atStart => exact ⟨0, Nat.zero_le _, rfl, ho1, hbl⟩
  case round =>
    obtain ⟨k, hk, rfl, hor, hbr⟩ := hrel
    by_cases hlt : k < zs.length
    · have i1 : (k : Int) < (zs.length : Int) := by omega
      have cb : wr.cell? ⟨b, off + k, none⟩ = some (.int .u8 (zs.getD k 0)) := by rw [hbr.cell (p := ⟨b, off + k, none⟩) hb]; exact HC.out k hlt
      have cg : ∃ u, wr.cell? ⟨w.heap.size, k, none⟩ = some u := by
        rw [hor.cellAt k (by omega)]
        exact ⟨_, List.getElem?_eq_getElem (by simp [mid_len zs k (by omega)]; exact hlt)⟩
      obtain ⟨u, cg⟩ := cg
      have fg := hor.frozenAt k
      have hst := hor.stored k (.int .u8 (zs.getD k 0))
      rw [← List.map_set, mid_step zs k hlt] at hst
      have HST : Hid ((wr.setCell ⟨w.heap.size, k, none⟩ (.int .u8 (zs.getD k 0))).ownsRow w.heap.size 5 1 (.slice (some ⟨w.heap.size, 0, none⟩) zs.length zs.length) zs.length ((mid zs (k + 1)).map (.int .u8))) := hst.1
      clear hst hor
      generalize zs.getD k 0 = y at *
      go_wp2
      go_roundw
      case rel => exact ⟨k + 1, by omega, by go_num, HST.out, hbr.setCell (Nat.le_refl _) _⟩
      case measure => simp [intOf]; omega
    · have hkn : k = zs.length := by omega
      rw [hkn, mid_all] at hor
      clear hkn
      go_wp2
      go_ret
      exact ⟨rfl, hor, hbr⟩
end Go.Proofs.Qxb6600572a
