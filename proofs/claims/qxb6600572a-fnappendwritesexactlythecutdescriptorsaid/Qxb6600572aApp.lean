import Derived.Test.Qxb6600572aDesc
namespace Go.Proofs.Qxb6600572a
open Go.RowKit

theorem app_end {w wr w' : World} {B : Nat} {v : Value} {zs : List Int} (h : Own w' w.heap.size B v zs) (h1 : Below w.heap.size w wr) (h2 : Below w.heap.size wr w') :
    w'.ownsRow w.heap.size 5 1 v zs.length (zs.map (.int .u8)) ∧ Below w.heap.size w w' := ⟨h.1, h1.trans h2⟩

set_option maxRecDepth 100000 in
set_option maxHeartbeats 4000000 in
theorem app_calls (nr st hp lp ht hT ls hk : Bool) (pt pid tl tid ky : Int) (v : Value) (zs : List Int) (w : World) (p0 : 0 ≤ pt) (p1 : pt ≤ 255) (q0 : 0 ≤ pid) (q1 : pid ≤ 65535) (_r0 : 0 ≤ tid) (_r1 : tid ≤ 255) (k0 : 0 ≤ ky) (k1 : ky ≤ 255) (hzl : zs.length ≤ 1048576) (hfull : Full w v zs) :
    Calls Try.prog 11 #[.agg #[.bool nr, .bool st, .int .u8 pt, .bool hp, .bool lp, .int .u16 pid, .bool ht, .int .u8 tl, .bool hT, .int .u8 tid, .bool ls, .bool hk, .int .u8 ky], v] w fun e w' => ∃ v', e = .returned v' ∧ w'.ownsRow w.heap.size 5 1 v' (zs ++ bytesOf nr st pt hp lp pid ht tl hT tid ls hk ky).length ((zs ++ bytesOf nr st pt hp lp pid ht tl hT tid ls hk ky).map (.int .u8)) ∧ Below w.heap.size w w' := by
  have e0 := and7 pt p0 p1
  have e1 := or32 (pt % 8) (by omega) (by omega)
  have e2 := or16 (fst1 nr pt) (fst1_bd nr pt).1 (by have := fst1_bd nr pt; omega) (by have := fst1_bd nr pt; omega)
  go_enter Try.func11, Try.ntmps11
  go_upto_if 14 with fail
  go_cut [5] (fun s5 wx => s5 = .int .u8 (fst1 nr pt) ∧ wx = (w.alloc (.cells #[.bool nr, .bool st, .int .u8 pt, .bool hp, .bool lp, .int .u16 pid, .bool ht, .int .u8 tl, .bool hT, .int .u8 tid, .bool ls, .bool hk, .int .u8 ky] 28)))
  case first =>
    cases nr
    all_goals (go_wp2_with fail; go_meet; exact ⟨rfl, rfl⟩)
  case rest =>
  obtain ⟨rfl, rfl⟩ := hcut
  go_upto_if 18 with fail
  go_cut [5] (fun s5 wx => s5 = .int .u8 (fst2 nr st pt) ∧ wx = (w.alloc (.cells #[.bool nr, .bool st, .int .u8 pt, .bool hp, .bool lp, .int .u16 pid, .bool ht, .int .u8 tl, .bool hT, .int .u8 tid, .bool ls, .bool hk, .int .u8 ky] 28)))
  case first =>
    cases st
    all_goals (go_wp2_with fail; go_meet; exact ⟨rfl, rfl⟩)
  case rest =>
  obtain ⟨rfl, rfl⟩ := hcut
  clear e0 e1 e2
  go_wp2
  go_loopw [6, 35] (fun x i wr => ∃ k : Nat, k ≤ 4 ∧ i = .int .i64 k ∧ x = .int .u8 (exTo hp ht hT hk k) ∧ Below (w.heap.size + 2) ((w.alloc (.cells #[.bool nr, .bool st, .int .u8 pt, .bool hp, .bool lp, .int .u16 pid, .bool ht, .int .u8 tl, .bool hT, .int .u8 tid, .bool ls, .bool hk, .int .u8 ky] 28)).alloc (.cells #[.bool hp, .int .u8 128, .bool ht, .int .u8 64, .bool hT, .int .u8 32, .bool hk, .int .u8 16] 40)) wr) (fun _ i _ => 4 - (intOf i).toNat)
  case atStart => exact ⟨0, by omega, rfl, num8 (ex0 hp ht hT hk).symm, Below.refl _ _⟩
  case round =>
    obtain ⟨k, hk4, rfl, rfl, hb⟩ := hrel
    have hcell : ∀ j u, (#[.bool hp, .int .u8 128, .bool ht, .int .u8 64, .bool hT, .int .u8 32, .bool hk, .int .u8 16] : Array Value)[j]? = some u → wr.cell? ⟨w.heap.size + 1, j, none⟩ = some u := fun j u hu => by
      rw [hb.cell (p := ⟨w.heap.size + 1, j, none⟩) (Nat.lt_succ_self _)]
      have := cells_at (w.alloc (.cells #[.bool nr, .bool st, .int .u8 pt, .bool hp, .bool lp, .int .u16 pid, .bool ht, .int .u8 tl, .bool hT, .int .u8 tid, .bool ls, .bool hk, .int .u8 ky] 28)) _ 40 j u hu
      simpa using this
    rcases (by omega : k = 0 ∨ k = 1 ∨ k = 2 ∨ k = 3 ∨ k = 4) with rfl | rfl | rfl | rfl | rfl
    · have ca := hcell 0 _ rfl
      have cb := hcell 1 _ rfl
      clear hcell
      have hbs := hb.size
      cases hp
      all_goals
        go_wp2
        go_roundw
        case rel => exact ⟨1, by omega, by go_num, num8 (by cases ht <;> cases hT <;> cases hk <;> decide +kernel), hb.alloc (by simpa using hbs) _⟩
        case measure => simp [intOf]
    · have ca := hcell 2 _ rfl
      have cb := hcell 3 _ rfl
      clear hcell
      have hbs := hb.size
      cases ht
      all_goals
        go_wp2
        go_roundw
        case rel => exact ⟨2, by omega, by go_num, num8 (by cases hp <;> cases hT <;> cases hk <;> decide +kernel), hb.alloc (by simpa using hbs) _⟩
        case measure => simp [intOf]
    · have ca := hcell 4 _ rfl
      have cb := hcell 5 _ rfl
      clear hcell
      have hbs := hb.size
      cases hT
      all_goals
        go_wp2
        go_roundw
        case rel => exact ⟨3, by omega, by go_num, num8 (by cases hp <;> cases ht <;> cases hk <;> decide +kernel), hb.alloc (by simpa using hbs) _⟩
        case measure => simp [intOf]
    · have ca := hcell 6 _ rfl
      have cb := hcell 7 _ rfl
      clear hcell
      have hbs := hb.size
      cases hk
      all_goals
        go_wp2
        go_roundw
        case rel => exact ⟨4, by omega, by go_num, num8 (by cases hp <;> cases ht <;> cases hT <;> decide +kernel), hb.alloc (by simpa using hbs) _⟩
        case measure => simp [intOf]
    · clear hcell
      have hw : Below w.heap.size w wr := (((Below.refl _ _).alloc (Nat.le_refl _) _).alloc (by simp) _).trans (hb.mono (by omega))
      have hfu : Full wr v zs := hfull.below hw
      have hws : w.heap.size < wr.heap.size := by have := hb.size; simp at this; omega
      have hd : wr.heap[w.heap.size]? = some (.cells #[.bool nr, .bool st, .int .u8 pt, .bool hp, .bool lp, .int .u16 pid, .bool ht, .int .u8 tl, .bool hT, .int .u8 tid, .bool ls, .bool hk, .int .u8 ky] 28) := by
        rw [hb.block _ (by omega), Below.heap_alloc _ _ _ (by simp)]
        show (w.heap.push _)[w.heap.size]? = _
        simp
      obtain ⟨f0, f1⟩ := fst2_bd nr st pt
      have e3 := u8_or128_right (fst2 nr st pt) f0 (by omega)
      by_cases hz : exTo hp ht hT hk 4 = 0
      · have hz' : (exTo hp ht hT hk 4 == 0) = true := by rw [hz]; rfl
        have HL : Hid (bytesOf nr st pt hp lp pid ht tl hT tid ls hk ky = [fst2 nr st pt]) := by show _ = _; unfold bytesOf; rw [if_pos hz]
        clear hz
        go_wp2_with (at_builtin; refine wpList_first1 (v := v) (zs := zs) (base := w.heap.size) (B := w.heap.size) rfl _ _ rfl rfl rfl hfu (by omega) hws (by omega) ?_; intro v1 w1 o1 b1)
        go_ret
        rw [HL.out]
        exact ⟨v1, rfl, app_end o1 hw (b1.mono (by omega))⟩
      · have hz' : (exTo hp ht hT hk 4 == 0) = false := by simp [hz]
        have HL : Hid (bytesOf nr st pt hp lp pid ht tl hT tid ls hk ky = [fst2 nr st pt + 128, exTo hp ht hT hk 4] ++ pidL hp lp pid ++ tlL ht tl ++ tL hT tid ls hk ky) := by show _ = _; unfold bytesOf; rw [if_neg hz]
        clear hz
        go_upto_region 15 with fail
        go_cut [1] (fun s1 wx => Own wx w.heap.size w.heap.size s1 (zs ++ [fst2 nr st pt + 128, exTo hp ht hT hk 4]) ∧ wx.heap[w.heap.size]? = some (.cells #[.bool nr, .bool st, .int .u8 pt, .bool hp, .bool lp, .int .u16 pid, .bool ht, .int .u8 tl, .bool hT, .int .u8 tid, .bool ls, .bool hk, .int .u8 ky] 28) ∧ Below w.heap.size wr wx)
        case first =>
          go_wp2_with (at_builtin; refine wpList_first2 (v := v) (zs := zs) (base := w.heap.size) (B := w.heap.size) rfl _ _ rfl rfl rfl hfu (by omega) hws (by omega) ?_; intro v1 w1 o1 b1)
          go_meet
          exact ⟨o1, (b1.block _ hws).trans hd, b1.mono (by omega)⟩
        case rest =>
        obtain ⟨o1, hd1, b1⟩ := hcut
        go_step
        go_step
        have c3 := cell_of (k := 3) hd1 rfl
        have c4 := cell_of (k := 4) hd1 rfl
        have c5 := cell_of (k := 5) hd1 rfl
        go_cut [1] (fun s1 wx => Own wx w.heap.size w.heap.size s1 (zs ++ [fst2 nr st pt + 128, exTo hp ht hT hk 4] ++ pidL hp lp pid) ∧ wx.heap[w.heap.size]? = some (.cells #[.bool nr, .bool st, .int .u8 pt, .bool hp, .bool lp, .int .u16 pid, .bool ht, .int .u8 tl, .bool hT, .int .u8 tid, .bool ls, .bool hk, .int .u8 ky] 28) ∧ Below w.heap.size wr wx)
        case first =>
          cases hp
          · go_wp2_with fail
            go_meet
            exact ⟨by simpa [pidL] using o1, hd1, b1⟩
          · cases lp
            · go_wp2_with (at_builtin; refine wpList_app1 rfl _ _ rfl rfl rfl o1 (by simp; omega) ?_; intro v2 w2 o2 b2 h2)
              go_meet
              refine ⟨?_, h2.trans hd1, b1.trans b2⟩
              rw [and127 _ (by omega) (by omega)] at o2
              have e : pid % 256 % 128 = pid % 128 := by omega
              rw [e] at o2
              exact o2
            · go_wp2_with (at_builtin; refine wpList_app2 rfl _ _ rfl rfl rfl o1 (by simp; omega) ?_; intro v2 w2 o2 b2 h2)
              go_meet
              refine ⟨?_, h2.trans hd1, b1.trans b2⟩
              rw [and127 _ (by omega) (by omega), or128l _ (by omega) (by omega)] at o2
              exact o2
        case rest =>
        obtain ⟨o2, hd2, b2⟩ := hcut
        clear c3 c4 c5
        have c6 := cell_of (k := 6) hd2 rfl
        have c7 := cell_of (k := 7) hd2 rfl
        have l2 : (zs ++ [fst2 nr st pt + 128, exTo hp ht hT hk 4] ++ pidL hp lp pid).length ≤ 1048590 := by
          have : (pidL hp lp pid).length ≤ 2 := by unfold pidL; split <;> (try split) <;> simp
          simp only [List.length_append, List.length_cons, List.length_nil]
          omega
        have HL2 : Hid (zs ++ bytesOf nr st pt hp lp pid ht tl hT tid ls hk ky = zs ++ [fst2 nr st pt + 128, exTo hp ht hT hk 4] ++ pidL hp lp pid ++ tlL ht tl ++ tL hT tid ls hk ky) := by show _ = _; rw [HL.out]; simp only [List.append_assoc]
        clear HL
        generalize zs ++ [fst2 nr st pt + 128, exTo hp ht hT hk 4] ++ pidL hp lp pid = L2 at *
        go_upto_if 88 with fail
        go_cut [1] (fun s1 wx => Own wx w.heap.size w.heap.size s1 (L2 ++ tlL ht tl) ∧ wx.heap[w.heap.size]? = some (.cells #[.bool nr, .bool st, .int .u8 pt, .bool hp, .bool lp, .int .u16 pid, .bool ht, .int .u8 tl, .bool hT, .int .u8 tid, .bool ls, .bool hk, .int .u8 ky] 28) ∧ Below w.heap.size wr wx)
        case first =>
          cases ht
          · go_wp2_with fail
            go_meet
            exact ⟨by simpa [tlL] using o2, hd2, b2⟩
          · go_wp2_with (at_builtin; refine wpList_app1 rfl _ _ rfl rfl rfl o2 (by omega) ?_; intro v3 w3 o3 b3 h3)
            go_meet
            exact ⟨o3, h3.trans hd2, b2.trans b3⟩
        case rest =>
        obtain ⟨o3, hd3, b3⟩ := hcut
        clear c6 c7
        have c8 := cell_of (k := 8) hd3 rfl
        have c9 := cell_of (k := 9) hd3 rfl
        have ca := cell_of (k := 10) hd3 rfl
        have cb := cell_of (k := 11) hd3 rfl
        have cc := cell_of (k := 12) hd3 rfl
        have l3 : (L2 ++ tlL ht tl).length ≤ 1048600 := by
          have : (tlL ht tl).length ≤ 1 := by unfold tlL; split <;> simp
          simp only [List.length_append]
          omega
        generalize L2 ++ tlL ht tl = L3 at *
        have t6 : tid * 64 % 256 = tid % 4 * 64 := by omega
        cases hT
        · cases hk
          · go_wp2
            go_ret
            have ee : L3 ++ tL false tid ls false ky = L3 := by simp [tL]
            rw [HL2.out, ee]
            exact ⟨_, rfl, app_end o3 hw b3⟩
          · go_wp2_with (at_builtin; refine wpList_app1 rfl _ _ rfl rfl rfl o3 (by omega) ?_; intro v4 w4 o4 b4 h4)
            go_ret
            rw [or0l _ (by omega) (by omega)] at o4
            have ee : tL false tid ls true ky = [ky % 32] := by simp [tL, tb]
            rw [HL2.out, ee]
            exact ⟨v4, rfl, app_end o4 hw (b3.trans b4)⟩
        · cases hk
          · cases ls
            · go_wp2_with (at_builtin; refine wpList_app1 rfl _ _ rfl rfl rfl o3 (by omega) ?_; intro v4 w4 o4 b4 h4)
              go_ret
              rw [or0l _ (by omega) (by omega)] at o4
              have ee : tL true tid false false ky = [tid % 4 * 64] := by simp [tL, tb]
              rw [HL2.out, ee]
              exact ⟨v4, rfl, app_end o4 hw (b3.trans b4)⟩
            · go_wp2_with (at_builtin; refine wpList_app1 rfl _ _ rfl rfl rfl o3 (by omega) ?_; intro v4 w4 o4 b4 h4)
              go_ret
              rw [or0l _ (by omega) (by omega), or32h _ (by omega) (by omega) (by omega)] at o4
              have ee : tL true tid true false ky = [tid % 4 * 64 + 32] := by simp [tL, tb]
              rw [HL2.out, ee]
              exact ⟨v4, rfl, app_end o4 hw (b3.trans b4)⟩
          · cases ls
            · go_wp2_with (at_builtin; refine wpList_app1 rfl _ _ rfl rfl rfl o3 (by omega) ?_; intro v4 w4 o4 b4 h4)
              go_ret
              rw [or0l _ (by omega) (by omega), orlow _ _ (by omega) (by omega) (by omega) (by omega) (by omega)] at o4
              have ee : tL true tid false true ky = [tid % 4 * 64 + ky % 32] := by simp [tL, tb]
              rw [HL2.out, ee]
              exact ⟨v4, rfl, app_end o4 hw (b3.trans b4)⟩
            · go_wp2_with (at_builtin; refine wpList_app1 rfl _ _ rfl rfl rfl o3 (by omega) ?_; intro v4 w4 o4 b4 h4)
              go_ret
              rw [or0l _ (by omega) (by omega), or32h _ (by omega) (by omega) (by omega), orlow _ _ (by omega) (by omega) (by omega) (by omega) (by omega)] at o4
              have ee : tL true tid true true ky = [tid % 4 * 64 + 32 + ky % 32] := by simp [tL, tb]
              rw [HL2.out, ee]
              exact ⟨v4, rfl, app_end o4 hw (b3.trans b4)⟩
end Go.Proofs.Qxb6600572a
