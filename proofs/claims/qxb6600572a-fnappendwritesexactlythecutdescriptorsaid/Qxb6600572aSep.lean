import Derived.Test.Qxb6600572aApp
import Derived.Test.Qxb6600572aSepLaw
import Derived.Test.Qxb6600572aSame
import Derived.Deep.RegionHeld3
namespace Go.Proofs.Qxb6600572a
open Go.RowKit

theorem cells13 {w : World} {B : Nat} {v0 v1 v2 v3 v4 v5 v6 v7 v8 v9 va vb vc : Value} {t : TypeId} (h : w.heap[B]? = some (.cells #[v0, v1, v2, v3, v4, v5, v6, v7, v8, v9, va, vb, vc] t)) :
    w.cell? ⟨B, 0, none⟩ = some v0 ∧ w.cell? ⟨B, 1, none⟩ = some v1 ∧ w.cell? ⟨B, 2, none⟩ = some v2 ∧ w.cell? ⟨B, 3, none⟩ = some v3 ∧ w.cell? ⟨B, 4, none⟩ = some v4 ∧ w.cell? ⟨B, 5, none⟩ = some v5 ∧ w.cell? ⟨B, 6, none⟩ = some v6 ∧ w.cell? ⟨B, 7, none⟩ = some v7 ∧ w.cell? ⟨B, 8, none⟩ = some v8 ∧ w.cell? ⟨B, 9, none⟩ = some v9 ∧ w.cell? ⟨B, 10, none⟩ = some va ∧ w.cell? ⟨B, 11, none⟩ = some vb ∧ w.cell? ⟨B, 12, none⟩ = some vc :=
  ⟨cell_of h rfl, cell_of h rfl, cell_of h rfl, cell_of h rfl, cell_of h rfl, cell_of h rfl, cell_of h rfl, cell_of h rfl, cell_of h rfl, cell_of h rfl, cell_of h rfl, cell_of h rfl, cell_of h rfl⟩

theorem RowAt.drew {w : World} {v : Value} {L : List Int} (h : RowAt w v L) : RowAt w.drew v L := h

theorem alloc_two (w : World) (a b : Obj) : ((w.alloc a).alloc b).heap[w.heap.size + 1]? = some b := by
  have := heap_alloc_new (w.alloc a) b
  rw [World.size_alloc] at this
  exact this

theorem bytes_ne (nr st hp lp ht hT ls hk : Bool) (pt pid tl tid ky : Int) : bytesOf nr st pt hp lp pid ht tl hT tid ls hk ky ≠ [] := by
  unfold bytesOf; split <;> simp
theorem bytes_len (nr st hp lp ht hT ls hk : Bool) (pt pid tl tid ky : Int) : (bytesOf nr st pt hp lp pid ht tl hT tid ls hk ky).length ≤ 100 := by
  have h1 : (pidL hp lp pid).length ≤ 2 := by unfold pidL; split <;> (try split) <;> simp
  have h2 : (tlL ht tl).length ≤ 1 := by unfold tlL; split <;> simp
  have h3 : (tL hT tid ls hk ky).length ≤ 1 := by unfold tL; split <;> simp
  unfold bytesOf; split
  · simp
  · simp only [List.length_append, List.length_cons, List.length_nil]; omega

set_option maxRecDepth 100000 in
set_option maxHeartbeats 4000000 in
theorem sep_walk (nr st hp lp ht hT ls hk : Bool) (pt pid tl tid ky : Int) (nr' st' hp' lp' ht' hT' ls' hk' : Bool) (pt' pid' tl' tid' ky' : Int) (d0a : 0 ≤ pt) (d0b : pt ≤ 255) (d1a : 0 ≤ pid) (d1b : pid ≤ 65535) (d2a : 0 ≤ tid) (d2b : tid ≤ 255) (d3a : 0 ≤ ky) (d3b : ky ≤ 255) (e0a : 0 ≤ pt') (e0b : pt' ≤ 255) (e1a : 0 ≤ pid') (e1b : pid' ≤ 65535) (e2a : 0 ≤ tid') (e2b : tid' ≤ 255) (e3a : 0 ≤ ky') (e3b : ky' ≤ 255) (w : World) :
    Calls Try.prog 5 #[.agg #[.bool nr, .bool st, .int .u8 pt, .bool hp, .bool lp, .int .u16 pid, .bool ht, .int .u8 tl, .bool hT, .int .u8 tid, .bool ls, .bool hk, .int .u8 ky], .agg #[.bool nr', .bool st', .int .u8 pt', .bool hp', .bool lp', .int .u16 pid', .bool ht', .int .u8 tl', .bool hT', .int .u8 tid', .bool ls', .bool hk', .int .u8 ky']] w fun e w' => e = .returned (.bool true) ∧ Below w.heap.size w w' := by
  go_enter Try.func5, Try.ntmps5
  go_wp2_with fail
  refine (to_media nr st hp lp ht hT ls hk pt pid tl tid ky _).mono ?_
  rintro e x1 ⟨rfl, b1⟩
  go_wp2_with fail
  refine (app_calls nr st hp lp ht hT ls hk pt pid tl tid ky (.slice none 0 0) [] _ d0a d0b d1a d1b d2a d2b d3a d3b (by simp) (.inl ⟨rfl, rfl⟩)).mono ?_
  rintro e x2 ⟨v1, rfl, o1, b2⟩
  have B2 : Below (w.heap.size + 2) ((w.alloc (.cells #[.bool nr, .bool st, .int .u8 pt, .bool hp, .bool lp, .int .u16 pid, .bool ht, .int .u8 tl, .bool hT, .int .u8 tid, .bool ls, .bool hk, .int .u8 ky] 24)).alloc (.cells #[.bool nr', .bool st', .int .u8 pt', .bool hp', .bool lp', .int .u16 pid', .bool ht', .int .u8 tl', .bool hT', .int .u8 tid', .bool ls', .bool hk', .int .u8 ky'] 24)) x2 := (b1.mono (by simp)).trans (b2.mono (by have := b1.size; simp at this; omega))
  have hD : x2.heap[w.heap.size]? = some (.cells #[.bool nr, .bool st, .int .u8 pt, .bool hp, .bool lp, .int .u16 pid, .bool ht, .int .u8 tl, .bool hT, .int .u8 tid, .bool ls, .bool hk, .int .u8 ky] 24) := by
    rw [B2.block _ (by omega), Below.heap_alloc _ _ _ (by simp)]
    show (w.heap.push _)[w.heap.size]? = _
    simp
  have hE : x2.heap[w.heap.size + 1]? = some (.cells #[.bool nr', .bool st', .int .u8 pt', .bool hp', .bool lp', .int .u16 pid', .bool ht', .int .u8 tl', .bool hT', .int .u8 tid', .bool ls', .bool hk', .int .u8 ky'] 24) := by
    rw [B2.block _ (by omega)]
    exact alloc_two _ _ _
  have HR1 : RowAt x2 v1 (bytesOf nr st pt hp lp pid ht tl hT tid ls hk ky) := RowAt.of_owns (by simpa using o1) (bytes_ne nr st hp lp ht hT ls hk pt pid tl tid ky)
  clear o1
  have f0 := cell_of (k := 0) hE rfl
  have f1 := cell_of (k := 1) hE rfl
  have f2 := cell_of (k := 2) hE rfl
  have f3 := cell_of (k := 3) hE rfl
  have f4 := cell_of (k := 4) hE rfl
  have f5 := cell_of (k := 5) hE rfl
  have f6 := cell_of (k := 6) hE rfl
  have f7 := cell_of (k := 7) hE rfl
  have f8 := cell_of (k := 8) hE rfl
  have f9 := cell_of (k := 9) hE rfl
  have f10 := cell_of (k := 10) hE rfl
  have f11 := cell_of (k := 11) hE rfl
  have f12 := cell_of (k := 12) hE rfl
  go_wp2_with fail
  refine (to_media nr' st' hp' lp' ht' hT' ls' hk' pt' pid' tl' tid' ky' _).mono ?_
  rintro e x3 ⟨rfl, b3⟩
  clear f0 f1 f2 f3 f4 f5 f6 f7 f8 f9 f10 f11 f12
  go_wp2_with fail
  refine (app_calls nr' st' hp' lp' ht' hT' ls' hk' pt' pid' tl' tid' ky' (.slice none 0 0) [] _ e0a e0b e1a e1b e2a e2b e3a e3b (by simp) (.inl ⟨rfl, rfl⟩)).mono ?_
  rintro e x4 ⟨v2, rfl, o2, b4⟩
  have B4 : Below x2.heap.size x2 x4 := b3.trans (b4.mono b3.size)
  have hs2 := B2.size
  simp only [World.size_alloc] at hs2
  have hs4 := B4.size
  have hD4 : x4.heap[w.heap.size]? = some (.cells #[.bool nr, .bool st, .int .u8 pt, .bool hp, .bool lp, .int .u16 pid, .bool ht, .int .u8 tl, .bool hT, .int .u8 tid, .bool ls, .bool hk, .int .u8 ky] 24) := (B4.block _ (by omega)).trans hD
  have hE4 : x4.heap[w.heap.size + 1]? = some (.cells #[.bool nr', .bool st', .int .u8 pt', .bool hp', .bool lp', .int .u16 pid', .bool ht', .int .u8 tl', .bool hT', .int .u8 tid', .bool ls', .bool hk', .int .u8 ky'] 24) := (B4.block _ (by omega)).trans hE
  have HR1' := HR1.below B4
  have HR2 : RowAt x4 v2 (bytesOf nr' st' pt' hp' lp' pid' ht' tl' hT' tid' ls' hk' ky') := RowAt.of_owns (by simpa using o2) (bytes_ne nr' st' hp' lp' ht' hT' ls' hk' pt' pid' tl' tid' ky')
  have BW : Below w.heap.size w x4 := (((Below.refl _ _).alloc (Nat.le_refl _) _).alloc (by simp) _).trans ((B2.mono (by omega)).trans (B4.mono (by omega)))
  clear o2 HR1 hD hE
  have K4 : x4.cell? ⟨w.heap.size, 0, none⟩ = some (.bool nr) ∧ x4.cell? ⟨w.heap.size, 1, none⟩ = some (.bool st) ∧ x4.cell? ⟨w.heap.size, 2, none⟩ = some (.int .u8 pt) ∧ x4.cell? ⟨w.heap.size, 3, none⟩ = some (.bool hp) ∧ x4.cell? ⟨w.heap.size, 4, none⟩ = some (.bool lp) ∧ x4.cell? ⟨w.heap.size, 5, none⟩ = some (.int .u16 pid) ∧ x4.cell? ⟨w.heap.size, 6, none⟩ = some (.bool ht) ∧ x4.cell? ⟨w.heap.size, 7, none⟩ = some (.int .u8 tl) ∧ x4.cell? ⟨w.heap.size, 8, none⟩ = some (.bool hT) ∧ x4.cell? ⟨w.heap.size, 9, none⟩ = some (.int .u8 tid) ∧ x4.cell? ⟨w.heap.size, 10, none⟩ = some (.bool ls) ∧ x4.cell? ⟨w.heap.size, 11, none⟩ = some (.bool hk) ∧ x4.cell? ⟨w.heap.size, 12, none⟩ = some (.int .u8 ky) ∧ x4.cell? ⟨w.heap.size + 1, 0, none⟩ = some (.bool nr') ∧ x4.cell? ⟨w.heap.size + 1, 1, none⟩ = some (.bool st') ∧ x4.cell? ⟨w.heap.size + 1, 2, none⟩ = some (.int .u8 pt') ∧ x4.cell? ⟨w.heap.size + 1, 3, none⟩ = some (.bool hp') ∧ x4.cell? ⟨w.heap.size + 1, 4, none⟩ = some (.bool lp') ∧ x4.cell? ⟨w.heap.size + 1, 5, none⟩ = some (.int .u16 pid') ∧ x4.cell? ⟨w.heap.size + 1, 6, none⟩ = some (.bool ht') ∧ x4.cell? ⟨w.heap.size + 1, 7, none⟩ = some (.int .u8 tl') ∧ x4.cell? ⟨w.heap.size + 1, 8, none⟩ = some (.bool hT') ∧ x4.cell? ⟨w.heap.size + 1, 9, none⟩ = some (.int .u8 tid') ∧ x4.cell? ⟨w.heap.size + 1, 10, none⟩ = some (.bool ls') ∧ x4.cell? ⟨w.heap.size + 1, 11, none⟩ = some (.bool hk') ∧ x4.cell? ⟨w.heap.size + 1, 12, none⟩ = some (.int .u8 ky') := ⟨cell_of hD4 rfl, cell_of hD4 rfl, cell_of hD4 rfl, cell_of hD4 rfl, cell_of hD4 rfl, cell_of hD4 rfl, cell_of hD4 rfl, cell_of hD4 rfl, cell_of hD4 rfl, cell_of hD4 rfl, cell_of hD4 rfl, cell_of hD4 rfl, cell_of hD4 rfl, cell_of hE4 rfl, cell_of hE4 rfl, cell_of hE4 rfl, cell_of hE4 rfl, cell_of hE4 rfl, cell_of hE4 rfl, cell_of hE4 rfl, cell_of hE4 rfl, cell_of hE4 rfl, cell_of hE4 rfl, cell_of hE4 rfl, cell_of hE4 rfl, cell_of hE4 rfl⟩
  have l1 := bytes_len nr st hp lp ht hT ls hk pt pid tl tid ky
  have l2 := bytes_len nr' st' hp' lp' ht' hT' ls' hk' pt' pid' tl' tid' ky'
  have hgd := fun (x y : Operand) (W : World) => guard_cut nr st hp lp ht hT ls hk pt pid tl tid ky nr' st' hp' lp' ht' hT' ls' hk' pt' pid' tl' tid' ky' x y W
  have hq := run_eqCut nr st hp lp ht hT ls hk pt pid tl tid ky nr' st' hp' lp' ht' hT' ls' hk' pt' pid' tl' tid' ky'
  have hsep := sep_iff nr st hp lp ht hT ls hk pt pid tl tid ky nr' st' hp' lp' ht' hT' ls' hk' pt' pid' tl' tid' ky'
  generalize hsd : eqCut nr st hp lp ht hT ls hk pt pid tl tid ky nr' st' hp' lp' ht' hT' ls' hk' pt' pid' tl' tid' ky' = sd at hq hsep
  clear hsd
  generalize bytesOf nr st pt hp lp pid ht tl hT tid ls hk ky = Ld at HR1' l1 hsep
  generalize bytesOf nr' st' pt' hp' lp' pid' ht' tl' hT' tid' ls' hk' ky' = Le at HR2 l2 hsep
  have HQ : Hid ((decide (Ld = Le) == sd) = true) := by
    show _ = _
    cases sd with
    | true => rw [decide_eq_true (hsep.2 rfl)]; rfl
    | false => rw [decide_eq_false (fun h => by simpa using hsep.1 h)]; rfl
  clear hsep
  go_wp2_with fail
  go_region_held3 (fun W => W.cell? ⟨w.heap.size, 0, none⟩ = some (.bool nr) ∧ W.cell? ⟨w.heap.size, 1, none⟩ = some (.bool st) ∧ W.cell? ⟨w.heap.size, 2, none⟩ = some (.int .u8 pt) ∧ W.cell? ⟨w.heap.size, 3, none⟩ = some (.bool hp) ∧ W.cell? ⟨w.heap.size, 4, none⟩ = some (.bool lp) ∧ W.cell? ⟨w.heap.size, 5, none⟩ = some (.int .u16 pid) ∧ W.cell? ⟨w.heap.size, 6, none⟩ = some (.bool ht) ∧ W.cell? ⟨w.heap.size, 7, none⟩ = some (.int .u8 tl) ∧ W.cell? ⟨w.heap.size, 8, none⟩ = some (.bool hT) ∧ W.cell? ⟨w.heap.size, 9, none⟩ = some (.int .u8 tid) ∧ W.cell? ⟨w.heap.size, 10, none⟩ = some (.bool ls) ∧ W.cell? ⟨w.heap.size, 11, none⟩ = some (.bool hk) ∧ W.cell? ⟨w.heap.size, 12, none⟩ = some (.int .u8 ky) ∧ W.cell? ⟨w.heap.size + 1, 0, none⟩ = some (.bool nr') ∧ W.cell? ⟨w.heap.size + 1, 1, none⟩ = some (.bool st') ∧ W.cell? ⟨w.heap.size + 1, 2, none⟩ = some (.int .u8 pt') ∧ W.cell? ⟨w.heap.size + 1, 3, none⟩ = some (.bool hp') ∧ W.cell? ⟨w.heap.size + 1, 4, none⟩ = some (.bool lp') ∧ W.cell? ⟨w.heap.size + 1, 5, none⟩ = some (.int .u16 pid') ∧ W.cell? ⟨w.heap.size + 1, 6, none⟩ = some (.bool ht') ∧ W.cell? ⟨w.heap.size + 1, 7, none⟩ = some (.int .u8 tl') ∧ W.cell? ⟨w.heap.size + 1, 8, none⟩ = some (.bool hT') ∧ W.cell? ⟨w.heap.size + 1, 9, none⟩ = some (.int .u8 tid') ∧ W.cell? ⟨w.heap.size + 1, 10, none⟩ = some (.bool ls') ∧ W.cell? ⟨w.heap.size + 1, 11, none⟩ = some (.bool hk') ∧ W.cell? ⟨w.heap.size + 1, 12, none⟩ = some (.int .u8 ky')) (first | exact K7 | exact K6 | exact K5 | exact K4) (first | (go_at_call 15; refine (same_calls v1 v2 Ld Le _ HR1'.drew HR2.drew (by omega) (by omega)).mono ?_; rintro e x5 ⟨rfl, b5⟩; have hD5 := (b5.block w.heap.size (by show _ < x4.heap.size; omega)).trans hD4; have hE5 := (b5.block (w.heap.size + 1) (by show _ < x4.heap.size; omega)).trans hE4; have K5 : x5.cell? ⟨w.heap.size, 0, none⟩ = some (.bool nr) ∧ x5.cell? ⟨w.heap.size, 1, none⟩ = some (.bool st) ∧ x5.cell? ⟨w.heap.size, 2, none⟩ = some (.int .u8 pt) ∧ x5.cell? ⟨w.heap.size, 3, none⟩ = some (.bool hp) ∧ x5.cell? ⟨w.heap.size, 4, none⟩ = some (.bool lp) ∧ x5.cell? ⟨w.heap.size, 5, none⟩ = some (.int .u16 pid) ∧ x5.cell? ⟨w.heap.size, 6, none⟩ = some (.bool ht) ∧ x5.cell? ⟨w.heap.size, 7, none⟩ = some (.int .u8 tl) ∧ x5.cell? ⟨w.heap.size, 8, none⟩ = some (.bool hT) ∧ x5.cell? ⟨w.heap.size, 9, none⟩ = some (.int .u8 tid) ∧ x5.cell? ⟨w.heap.size, 10, none⟩ = some (.bool ls) ∧ x5.cell? ⟨w.heap.size, 11, none⟩ = some (.bool hk) ∧ x5.cell? ⟨w.heap.size, 12, none⟩ = some (.int .u8 ky) ∧ x5.cell? ⟨w.heap.size + 1, 0, none⟩ = some (.bool nr') ∧ x5.cell? ⟨w.heap.size + 1, 1, none⟩ = some (.bool st') ∧ x5.cell? ⟨w.heap.size + 1, 2, none⟩ = some (.int .u8 pt') ∧ x5.cell? ⟨w.heap.size + 1, 3, none⟩ = some (.bool hp') ∧ x5.cell? ⟨w.heap.size + 1, 4, none⟩ = some (.bool lp') ∧ x5.cell? ⟨w.heap.size + 1, 5, none⟩ = some (.int .u16 pid') ∧ x5.cell? ⟨w.heap.size + 1, 6, none⟩ = some (.bool ht') ∧ x5.cell? ⟨w.heap.size + 1, 7, none⟩ = some (.int .u8 tl') ∧ x5.cell? ⟨w.heap.size + 1, 8, none⟩ = some (.bool hT') ∧ x5.cell? ⟨w.heap.size + 1, 9, none⟩ = some (.int .u8 tid') ∧ x5.cell? ⟨w.heap.size + 1, 10, none⟩ = some (.bool ls') ∧ x5.cell? ⟨w.heap.size + 1, 11, none⟩ = some (.bool hk') ∧ x5.cell? ⟨w.heap.size + 1, 12, none⟩ = some (.int .u8 ky') := ⟨cell_of hD5 rfl, cell_of hD5 rfl, cell_of hD5 rfl, cell_of hD5 rfl, cell_of hD5 rfl, cell_of hD5 rfl, cell_of hD5 rfl, cell_of hD5 rfl, cell_of hD5 rfl, cell_of hD5 rfl, cell_of hD5 rfl, cell_of hD5 rfl, cell_of hD5 rfl, cell_of hE5 rfl, cell_of hE5 rfl, cell_of hE5 rfl, cell_of hE5 rfl, cell_of hE5 rfl, cell_of hE5 rfl, cell_of hE5 rfl, cell_of hE5 rfl, cell_of hE5 rfl, cell_of hE5 rfl, cell_of hE5 rfl, cell_of hE5 rfl, cell_of hE5 rfl⟩; have hs5 : x4.heap.size ≤ x5.heap.size := b5.size) | (go_at_call_of 13 (Value.agg #[.bool nr, .bool st, .int .u8 pt, .bool hp, .bool lp, .int .u16 pid, .bool ht, .int .u8 tl, .bool hT, .int .u8 tid, .bool ls, .bool hk, .int .u8 ky]); refine (cutV_calls nr st hp lp ht hT ls hk pt pid tl tid ky _ d0a d0b d1a d1b d2a d2b d3a d3b).mono ?_; rintro e x6 ⟨rfl, b6⟩; have hD6 := (b6.block w.heap.size (by omega)).trans hD5; have hE6 := (b6.block (w.heap.size + 1) (by omega)).trans hE5; have K6 : x6.cell? ⟨w.heap.size, 0, none⟩ = some (.bool nr) ∧ x6.cell? ⟨w.heap.size, 1, none⟩ = some (.bool st) ∧ x6.cell? ⟨w.heap.size, 2, none⟩ = some (.int .u8 pt) ∧ x6.cell? ⟨w.heap.size, 3, none⟩ = some (.bool hp) ∧ x6.cell? ⟨w.heap.size, 4, none⟩ = some (.bool lp) ∧ x6.cell? ⟨w.heap.size, 5, none⟩ = some (.int .u16 pid) ∧ x6.cell? ⟨w.heap.size, 6, none⟩ = some (.bool ht) ∧ x6.cell? ⟨w.heap.size, 7, none⟩ = some (.int .u8 tl) ∧ x6.cell? ⟨w.heap.size, 8, none⟩ = some (.bool hT) ∧ x6.cell? ⟨w.heap.size, 9, none⟩ = some (.int .u8 tid) ∧ x6.cell? ⟨w.heap.size, 10, none⟩ = some (.bool ls) ∧ x6.cell? ⟨w.heap.size, 11, none⟩ = some (.bool hk) ∧ x6.cell? ⟨w.heap.size, 12, none⟩ = some (.int .u8 ky) ∧ x6.cell? ⟨w.heap.size + 1, 0, none⟩ = some (.bool nr') ∧ x6.cell? ⟨w.heap.size + 1, 1, none⟩ = some (.bool st') ∧ x6.cell? ⟨w.heap.size + 1, 2, none⟩ = some (.int .u8 pt') ∧ x6.cell? ⟨w.heap.size + 1, 3, none⟩ = some (.bool hp') ∧ x6.cell? ⟨w.heap.size + 1, 4, none⟩ = some (.bool lp') ∧ x6.cell? ⟨w.heap.size + 1, 5, none⟩ = some (.int .u16 pid') ∧ x6.cell? ⟨w.heap.size + 1, 6, none⟩ = some (.bool ht') ∧ x6.cell? ⟨w.heap.size + 1, 7, none⟩ = some (.int .u8 tl') ∧ x6.cell? ⟨w.heap.size + 1, 8, none⟩ = some (.bool hT') ∧ x6.cell? ⟨w.heap.size + 1, 9, none⟩ = some (.int .u8 tid') ∧ x6.cell? ⟨w.heap.size + 1, 10, none⟩ = some (.bool ls') ∧ x6.cell? ⟨w.heap.size + 1, 11, none⟩ = some (.bool hk') ∧ x6.cell? ⟨w.heap.size + 1, 12, none⟩ = some (.int .u8 ky') := ⟨cell_of hD6 rfl, cell_of hD6 rfl, cell_of hD6 rfl, cell_of hD6 rfl, cell_of hD6 rfl, cell_of hD6 rfl, cell_of hD6 rfl, cell_of hD6 rfl, cell_of hD6 rfl, cell_of hD6 rfl, cell_of hD6 rfl, cell_of hD6 rfl, cell_of hD6 rfl, cell_of hE6 rfl, cell_of hE6 rfl, cell_of hE6 rfl, cell_of hE6 rfl, cell_of hE6 rfl, cell_of hE6 rfl, cell_of hE6 rfl, cell_of hE6 rfl, cell_of hE6 rfl, cell_of hE6 rfl, cell_of hE6 rfl, cell_of hE6 rfl, cell_of hE6 rfl⟩; have hs6 := b6.size) | (go_at_call_of 13 (Value.agg #[.bool nr', .bool st', .int .u8 pt', .bool hp', .bool lp', .int .u16 pid', .bool ht', .int .u8 tl', .bool hT', .int .u8 tid', .bool ls', .bool hk', .int .u8 ky']); refine (cutV_calls nr' st' hp' lp' ht' hT' ls' hk' pt' pid' tl' tid' ky' _ e0a e0b e1a e1b e2a e2b e3a e3b).mono ?_; rintro e x7 ⟨rfl, b7⟩; have hD7 := (b7.block w.heap.size (by omega)).trans hD6; have hE7 := (b7.block (w.heap.size + 1) (by omega)).trans hE6; have K7 : x7.cell? ⟨w.heap.size, 0, none⟩ = some (.bool nr) ∧ x7.cell? ⟨w.heap.size, 1, none⟩ = some (.bool st) ∧ x7.cell? ⟨w.heap.size, 2, none⟩ = some (.int .u8 pt) ∧ x7.cell? ⟨w.heap.size, 3, none⟩ = some (.bool hp) ∧ x7.cell? ⟨w.heap.size, 4, none⟩ = some (.bool lp) ∧ x7.cell? ⟨w.heap.size, 5, none⟩ = some (.int .u16 pid) ∧ x7.cell? ⟨w.heap.size, 6, none⟩ = some (.bool ht) ∧ x7.cell? ⟨w.heap.size, 7, none⟩ = some (.int .u8 tl) ∧ x7.cell? ⟨w.heap.size, 8, none⟩ = some (.bool hT) ∧ x7.cell? ⟨w.heap.size, 9, none⟩ = some (.int .u8 tid) ∧ x7.cell? ⟨w.heap.size, 10, none⟩ = some (.bool ls) ∧ x7.cell? ⟨w.heap.size, 11, none⟩ = some (.bool hk) ∧ x7.cell? ⟨w.heap.size, 12, none⟩ = some (.int .u8 ky) ∧ x7.cell? ⟨w.heap.size + 1, 0, none⟩ = some (.bool nr') ∧ x7.cell? ⟨w.heap.size + 1, 1, none⟩ = some (.bool st') ∧ x7.cell? ⟨w.heap.size + 1, 2, none⟩ = some (.int .u8 pt') ∧ x7.cell? ⟨w.heap.size + 1, 3, none⟩ = some (.bool hp') ∧ x7.cell? ⟨w.heap.size + 1, 4, none⟩ = some (.bool lp') ∧ x7.cell? ⟨w.heap.size + 1, 5, none⟩ = some (.int .u16 pid') ∧ x7.cell? ⟨w.heap.size + 1, 6, none⟩ = some (.bool ht') ∧ x7.cell? ⟨w.heap.size + 1, 7, none⟩ = some (.int .u8 tl') ∧ x7.cell? ⟨w.heap.size + 1, 8, none⟩ = some (.bool hT') ∧ x7.cell? ⟨w.heap.size + 1, 9, none⟩ = some (.int .u8 tid') ∧ x7.cell? ⟨w.heap.size + 1, 10, none⟩ = some (.bool ls') ∧ x7.cell? ⟨w.heap.size + 1, 11, none⟩ = some (.bool hk') ∧ x7.cell? ⟨w.heap.size + 1, 12, none⟩ = some (.int .u8 ky') := ⟨cell_of hD7 rfl, cell_of hD7 rfl, cell_of hD7 rfl, cell_of hD7 rfl, cell_of hD7 rfl, cell_of hD7 rfl, cell_of hD7 rfl, cell_of hD7 rfl, cell_of hD7 rfl, cell_of hD7 rfl, cell_of hD7 rfl, cell_of hD7 rfl, cell_of hD7 rfl, cell_of hE7 rfl, cell_of hE7 rfl, cell_of hE7 rfl, cell_of hE7 rfl, cell_of hE7 rfl, cell_of hE7 rfl, cell_of hE7 rfl, cell_of hE7 rfl, cell_of hE7 rfl, cell_of hE7 rfl, cell_of hE7 rfl, cell_of hE7 rfl, cell_of hE7 rfl⟩))
  go_wp2
  go_ret
  exact ⟨ret_b HQ.out, BW.drew.trans ((b5.mono (by show w.heap.size ≤ x4.heap.size; omega)).trans ((b6.mono (by omega)).trans (b7.mono (by omega))))⟩
end Go.Proofs.Qxb6600572a
