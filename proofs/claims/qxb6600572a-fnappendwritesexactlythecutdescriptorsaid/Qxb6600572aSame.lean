import Derived.Test.Qxb6600572aDesc
namespace Go.Proofs.Qxb6600572a
open Go.RowKit

/-- The slice v (not nil) reads as the bytes L. -/
def RowAt (w : World) (v : Value) (L : List Int) : Prop :=
  ∃ g cap, v = .slice (some ⟨g, 0, none⟩) L.length cap ∧ L.length ≤ cap ∧ g < w.heap.size ∧ ∀ j, j < L.length → w.cell? ⟨g, j, none⟩ = some (.int .u8 (L.getD j 0))

theorem RowAt.below {w w' : World} {v : Value} {L : List Int} (h : RowAt w v L) (hb : Below w.heap.size w w') : RowAt w' v L := by
  obtain ⟨g, cap, h1, h2, h3, h4⟩ := h
  exact ⟨g, cap, h1, h2, Nat.lt_of_lt_of_le h3 hb.size, fun j hj => by rw [hb.cell (p := ⟨g, j, none⟩) h3]; exact h4 j hj⟩

theorem RowAt.of_owns {w : World} {base : Nat} {v : Value} {L : List Int} (h : w.ownsRow base 5 1 v L.length (L.map (.int .u8))) (hL : L ≠ []) : RowAt w v L := by
  have hlt := h.lt
  have hcells := fun g hg => h.cells (g := g) hg
  rcases h.2 with ⟨_, hn⟩ | ⟨g, cap, cur, rfl, hb, hg, hnc, _⟩
  · exact absurd (List.eq_nil_of_length_eq_zero hn) hL
  · refine ⟨g, cap, rfl, hnc, (hlt g rfl).2, fun j hj => ?_⟩
    have := hcells g rfl j (.int .u8 (L.getD j 0)) (by simp [List.getD, hj])
    rw [Addr.add_lit, Nat.zero_add] at this
    exact this

theorem take_snoc_eq (L M : List Int) (k : Nat) (h1 : k < L.length) (h2 : k < M.length) (h : L.take k = M.take k) (hx : L.getD k 0 = M.getD k 0) : L.take (k + 1) = M.take (k + 1) := by
  rw [List.take_succ_eq_append_getElem h1, List.take_succ_eq_append_getElem h2, h]
  have e1 : L.getD k 0 = L[k] := by simp [List.getD, h1]
  have e2 : M.getD k 0 = M[k] := by simp [List.getD, h2]
  rw [← e1, ← e2, hx]

theorem ret_b {x y : Bool} (h : x = y) : Ending.returned (.bool x) = .returned (.bool y) := by rw [h]

set_option maxHeartbeats 1000000 in
theorem same_calls (v1 v2 : Value) (L M : List Int) (w : World) (hL : RowAt w v1 L) (hM : RowAt w v2 M) (l1 : L.length ≤ 2000000) (l2 : M.length ≤ 2000000) :
    Calls Try.prog 15 #[v1, v2] w fun e w' => e = .returned (.bool (decide (L = M))) ∧ Below w.heap.size w w' := by
  obtain ⟨g1, c1, rfl, hc1, gl1, hx1⟩ := hL
  obtain ⟨g2, c2, rfl, hc2, gl2, hx2⟩ := hM
  by_cases hlen : L.length = M.length
  · have t : ((L.length : Int) != (M.length : Int)) = false := by rw [bne_eq_false_iff_eq]; omega
    have HX1 : Hid (∀ j, j < L.length → w.cell? ⟨g1, j, none⟩ = some (.int .u8 (L.getD j 0))) := hx1
    have HX2 : Hid (∀ j, j < M.length → w.cell? ⟨g2, j, none⟩ = some (.int .u8 (M.getD j 0))) := hx2
    have HLEN : Hid (L.length = M.length) := hlen
    clear hx1 hx2 hlen
    go_enter Try.func15, Try.ntmps15
    go_wp2
    go_loopw [5] (fun i wr => ∃ k : Nat, k ≤ L.length ∧ i = .int .i64 k ∧ Hid (L.take k = M.take k) ∧ Below w.heap.size w wr) (fun i _ => L.length - (intOf i).toNat)
    case atStart => exact ⟨0, Nat.zero_le _, rfl, rfl, Below.refl _ _⟩
    case round =>
      obtain ⟨k, hk, rfl, HT, hb⟩ := hrel
      by_cases hlt : k < L.length
      · have a1 : wr.cell? ⟨g1, k, none⟩ = some (.int .u8 (L.getD k 0)) := by rw [hb.cell (p := ⟨g1, k, none⟩) gl1]; exact HX1.out k hlt
        have a2 : wr.cell? ⟨g2, k, none⟩ = some (.int .u8 (M.getD k 0)) := by rw [hb.cell (p := ⟨g2, k, none⟩) gl2]; exact HX2.out k (by have := HLEN.out; omega)
        have i1 : (k : Int) < (L.length : Int) := by omega
        have i2 : (k : Int) < (M.length : Int) := by have := HLEN.out; omega
        generalize hy1 : L.getD k 0 = y1 at a1
        generalize hy2 : M.getD k 0 = y2 at a2
        have HY1 : Hid (L.getD k 0 = y1) := hy1
        have HY2 : Hid (M.getD k 0 = y2) := hy2
        clear hy1 hy2
        by_cases he : y1 = y2
        · have HN : Hid (L.take (k + 1) = M.take (k + 1)) := take_snoc_eq L M k hlt (by omega) HT.out (by rw [HY1.out, HY2.out, he])
          subst he
          go_wp2
          go_quiet (fail)
          go_wp2
          go_roundw
          case rel => exact ⟨k + 1, by omega, by go_num, HN, below_drewN hb _⟩
          case measure => simp [intOf]; omega
        · have tn : (y1 != y2) = true := by rw [bne_iff_ne]; exact he
          have HF : Hid (false = decide (L = M)) := by
            show _ = _
            rw [eq_comm, decide_eq_false_iff_not]
            intro h
            subst h
            exact he (HY1.out.symm.trans HY2.out)
          clear he
          go_wp2
          go_quiet (fail)
          go_wp2
          go_ret
          exact ⟨ret_b HF.out, below_drewN hb _⟩
      · have HF : Hid (true = decide (L = M)) := by
          show _ = _
          rw [eq_comm, decide_eq_true_iff]
          have := HT.out
          rw [List.take_of_length_le (by omega), List.take_of_length_le (by have := HLEN.out; omega)] at this
          exact this
        go_wp2
        go_ret
        exact ⟨ret_b HF.out, hb⟩
  · have t : ((L.length : Int) != (M.length : Int)) = true := by rw [bne_iff_ne]; omega
    have HF : Hid (false = decide (L = M)) := by
      show _ = _
      rw [eq_comm, decide_eq_false_iff_not]
      intro h
      exact hlen (by rw [h])
    clear hlen
    go_enter Try.func15, Try.ntmps15
    go_wp2
    go_ret
    exact ⟨ret_b HF.out, Below.refl _ _⟩
end Go.Proofs.Qxb6600572a
