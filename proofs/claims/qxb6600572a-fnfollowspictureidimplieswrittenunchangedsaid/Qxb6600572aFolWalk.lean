import Derived.Test.Qxb6600572aSep
import Derived.Test.Qxb6600572aFol
import Derived.Test.Qxb6600572aBack
namespace Go.Proofs.Qxb6600572a
open Go.RowKit

theorem RowO.of_at {w : World} {v : Value} {L : List Int} (h : RowAt w v L) : RowO w v L := by
  obtain ⟨g, cap, h1, _, h3, h4⟩ := h
  exact ⟨g, 0, cap, h1, h3, fun j hj => by rw [Nat.zero_add]; exact h4 j hj⟩

set_option maxRecDepth 100000 in
set_option maxHeartbeats 4000000 in
theorem fol_false (nr st ht hT ls hk : Bool) (pt pid tl tid ky prev : Int) (d0a : 0 ≤ pt) (d0b : pt ≤ 255) (d1a : 0 ≤ pid) (d1b : pid ≤ 65535) (d2a : 0 ≤ tid) (d2b : tid ≤ 255) (d3a : 0 ≤ ky) (d3b : ky ≤ 255) (v0 : 0 ≤ prev) (v1 : prev ≤ 65535) (w : World)
    (HP : Hid (pid = (prev + 1) % 128)) :
    Calls Try.prog 7 #[.agg #[.bool nr, .bool st, .int .u8 pt, .bool true, .bool false, .int .u16 pid, .bool ht, .int .u8 tl, .bool hT, .int .u8 tid, .bool ls, .bool hk, .int .u8 ky], .int .u16 prev] w fun e w' => e = .returned (.bool true) ∧ Below w.heap.size w w' := by
  have HF : Hid (fol true false pid prev = true) := by
    show (true && (pid == (prev + 1) % wid false)) = true
    rw [HP.out]
    exact beq_self_eq_true _
  have HC : Hid (cPid true false pid = pid) := by
    have := HP.out
    show pid % 128 = pid
    omega
  go_enter Try.func7, Try.ntmps7
  go_wp2_with fail
  refine (to_media nr st true false ht hT ls hk pt pid tl tid ky _).mono ?_
  rintro e x1 ⟨rfl, b1⟩
  go_wp2_with fail
  refine (fol_calls nr st true false ht hT ls hk pt pid tl tid ky prev _).mono ?_
  rintro e x2 ⟨rfl, b2⟩
  rw [HF.out]
  have B2 : Below (w.heap.size + 1) (w.alloc (.cells #[.bool nr, .bool st, .int .u8 pt, .bool true, .bool false, .int .u16 pid, .bool ht, .int .u8 tl, .bool hT, .int .u8 tid, .bool ls, .bool hk, .int .u8 ky] 24)) x2 := (b1.mono (by simp)).trans (b2.mono (by have := b1.size; simp at this; omega))
  have hs2 := B2.size
  simp only [World.size_alloc] at hs2
  have hD : x2.heap[w.heap.size]? = some (.cells #[.bool nr, .bool st, .int .u8 pt, .bool true, .bool false, .int .u16 pid, .bool ht, .int .u8 tl, .bool hT, .int .u8 tid, .bool ls, .bool hk, .int .u8 ky] 24) := by
    rw [B2.block _ (by omega)]
    exact heap_alloc_new _ _
  obtain ⟨f0, f1, f2, f3, f4, f5, f6, f7, f8, f9, f10, f11, f12⟩ := cells13 hD
  go_wp2_with fail
  refine (to_media nr st true false ht hT ls hk pt pid tl tid ky _).mono ?_
  rintro e x3 ⟨rfl, b3⟩
  clear f0 f1 f2 f3 f4 f5 f6 f7 f8 f9 f10 f11 f12
  go_wp2_with fail
  refine (app_calls nr st true false ht hT ls hk pt pid tl tid ky (.slice none 0 0) [] _ d0a d0b d1a d1b d2a d2b d3a d3b (by simp) (.inl ⟨rfl, rfl⟩)).mono ?_
  rintro e x4 ⟨v1', rfl, o1, b4⟩
  have HR : RowO x4 v1' (bytesOf nr st pt true false pid ht tl hT tid ls hk ky) := RowO.of_at (RowAt.of_owns (by simpa using o1) (bytes_ne nr st true false ht hT ls hk pt pid tl tid ky))
  clear o1
  go_wp2_with fail
  refine (read_calls nr st true false ht hT ls hk pt pid tl tid ky v1' _ HR d0a d1a d1b).mono ?_
  rintro e x5 ⟨rfl, b5⟩
  rw [HC.out]
  have B5 : Below x2.heap.size x2 x5 := b3.trans ((b4.mono b3.size).trans (b5.mono (Nat.le_trans b3.size b4.size)))
  have hs5 := B5.size
  have hD5 : x5.heap[w.heap.size]? = some (.cells #[.bool nr, .bool st, .int .u8 pt, .bool true, .bool false, .int .u16 pid, .bool ht, .int .u8 tl, .bool hT, .int .u8 tid, .bool ls, .bool hk, .int .u8 ky] 24) := (B5.block _ (by omega)).trans hD
  obtain ⟨f0, f1, f2, f3, f4, f5, f6, f7, f8, f9, f10, f11, f12⟩ := cells13 hD5
  have hlt : w.heap.size < x5.heap.size := by omega
  have BW : Below w.heap.size w x5 := ((Below.refl _ _).alloc (Nat.le_refl _) _).trans ((B2.mono (by omega)).trans (B5.mono (by omega)))
  go_wp2_with fail
  have hD6 : (x5.alloc (.cells #[.bool nr, .bool st, .int .u8 (pt % 8), .bool true, .bool false, .int .u16 pid, .bool ht, .int .u8 (cTl ht tl), .bool hT, .int .u8 (cTid hT tid), .bool (hT && ls), .bool hk, .int .u8 (cKy hk ky)] 24)).heap[w.heap.size]? = some (.cells #[.bool nr, .bool st, .int .u8 pt, .bool true, .bool false, .int .u16 pid, .bool ht, .int .u8 tl, .bool hT, .int .u8 tid, .bool ls, .bool hk, .int .u8 ky] 24) := (Below.heap_alloc _ _ _ hlt).trans hD5
  have hG6 : (x5.alloc (.cells #[.bool nr, .bool st, .int .u8 (pt % 8), .bool true, .bool false, .int .u16 pid, .bool ht, .int .u8 (cTl ht tl), .bool hT, .int .u8 (cTid hT tid), .bool (hT && ls), .bool hk, .int .u8 (cKy hk ky)] 24)).heap[x5.heap.size]? = some (.cells #[.bool nr, .bool st, .int .u8 (pt % 8), .bool true, .bool false, .int .u16 pid, .bool ht, .int .u8 (cTl ht tl), .bool hT, .int .u8 (cTid hT tid), .bool (hT && ls), .bool hk, .int .u8 (cKy hk ky)] 24) := heap_alloc_new _ _
  have K6 : (x5.alloc (.cells #[.bool nr, .bool st, .int .u8 (pt % 8), .bool true, .bool false, .int .u16 pid, .bool ht, .int .u8 (cTl ht tl), .bool hT, .int .u8 (cTid hT tid), .bool (hT && ls), .bool hk, .int .u8 (cKy hk ky)] 24)).cell? ⟨w.heap.size, 0, none⟩ = some (.bool nr) ∧ (x5.alloc (.cells #[.bool nr, .bool st, .int .u8 (pt % 8), .bool true, .bool false, .int .u16 pid, .bool ht, .int .u8 (cTl ht tl), .bool hT, .int .u8 (cTid hT tid), .bool (hT && ls), .bool hk, .int .u8 (cKy hk ky)] 24)).cell? ⟨w.heap.size, 1, none⟩ = some (.bool st) ∧ (x5.alloc (.cells #[.bool nr, .bool st, .int .u8 (pt % 8), .bool true, .bool false, .int .u16 pid, .bool ht, .int .u8 (cTl ht tl), .bool hT, .int .u8 (cTid hT tid), .bool (hT && ls), .bool hk, .int .u8 (cKy hk ky)] 24)).cell? ⟨w.heap.size, 2, none⟩ = some (.int .u8 pt) ∧ (x5.alloc (.cells #[.bool nr, .bool st, .int .u8 (pt % 8), .bool true, .bool false, .int .u16 pid, .bool ht, .int .u8 (cTl ht tl), .bool hT, .int .u8 (cTid hT tid), .bool (hT && ls), .bool hk, .int .u8 (cKy hk ky)] 24)).cell? ⟨w.heap.size, 3, none⟩ = some (.bool true) ∧ (x5.alloc (.cells #[.bool nr, .bool st, .int .u8 (pt % 8), .bool true, .bool false, .int .u16 pid, .bool ht, .int .u8 (cTl ht tl), .bool hT, .int .u8 (cTid hT tid), .bool (hT && ls), .bool hk, .int .u8 (cKy hk ky)] 24)).cell? ⟨w.heap.size, 4, none⟩ = some (.bool false) ∧ (x5.alloc (.cells #[.bool nr, .bool st, .int .u8 (pt % 8), .bool true, .bool false, .int .u16 pid, .bool ht, .int .u8 (cTl ht tl), .bool hT, .int .u8 (cTid hT tid), .bool (hT && ls), .bool hk, .int .u8 (cKy hk ky)] 24)).cell? ⟨w.heap.size, 5, none⟩ = some (.int .u16 pid) ∧ (x5.alloc (.cells #[.bool nr, .bool st, .int .u8 (pt % 8), .bool true, .bool false, .int .u16 pid, .bool ht, .int .u8 (cTl ht tl), .bool hT, .int .u8 (cTid hT tid), .bool (hT && ls), .bool hk, .int .u8 (cKy hk ky)] 24)).cell? ⟨w.heap.size, 6, none⟩ = some (.bool ht) ∧ (x5.alloc (.cells #[.bool nr, .bool st, .int .u8 (pt % 8), .bool true, .bool false, .int .u16 pid, .bool ht, .int .u8 (cTl ht tl), .bool hT, .int .u8 (cTid hT tid), .bool (hT && ls), .bool hk, .int .u8 (cKy hk ky)] 24)).cell? ⟨w.heap.size, 7, none⟩ = some (.int .u8 tl) ∧ (x5.alloc (.cells #[.bool nr, .bool st, .int .u8 (pt % 8), .bool true, .bool false, .int .u16 pid, .bool ht, .int .u8 (cTl ht tl), .bool hT, .int .u8 (cTid hT tid), .bool (hT && ls), .bool hk, .int .u8 (cKy hk ky)] 24)).cell? ⟨w.heap.size, 8, none⟩ = some (.bool hT) ∧ (x5.alloc (.cells #[.bool nr, .bool st, .int .u8 (pt % 8), .bool true, .bool false, .int .u16 pid, .bool ht, .int .u8 (cTl ht tl), .bool hT, .int .u8 (cTid hT tid), .bool (hT && ls), .bool hk, .int .u8 (cKy hk ky)] 24)).cell? ⟨w.heap.size, 9, none⟩ = some (.int .u8 tid) ∧ (x5.alloc (.cells #[.bool nr, .bool st, .int .u8 (pt % 8), .bool true, .bool false, .int .u16 pid, .bool ht, .int .u8 (cTl ht tl), .bool hT, .int .u8 (cTid hT tid), .bool (hT && ls), .bool hk, .int .u8 (cKy hk ky)] 24)).cell? ⟨w.heap.size, 10, none⟩ = some (.bool ls) ∧ (x5.alloc (.cells #[.bool nr, .bool st, .int .u8 (pt % 8), .bool true, .bool false, .int .u16 pid, .bool ht, .int .u8 (cTl ht tl), .bool hT, .int .u8 (cTid hT tid), .bool (hT && ls), .bool hk, .int .u8 (cKy hk ky)] 24)).cell? ⟨w.heap.size, 11, none⟩ = some (.bool hk) ∧ (x5.alloc (.cells #[.bool nr, .bool st, .int .u8 (pt % 8), .bool true, .bool false, .int .u16 pid, .bool ht, .int .u8 (cTl ht tl), .bool hT, .int .u8 (cTid hT tid), .bool (hT && ls), .bool hk, .int .u8 (cKy hk ky)] 24)).cell? ⟨w.heap.size, 12, none⟩ = some (.int .u8 ky) ∧ (x5.alloc (.cells #[.bool nr, .bool st, .int .u8 (pt % 8), .bool true, .bool false, .int .u16 pid, .bool ht, .int .u8 (cTl ht tl), .bool hT, .int .u8 (cTid hT tid), .bool (hT && ls), .bool hk, .int .u8 (cKy hk ky)] 24)).cell? ⟨x5.heap.size, 5, none⟩ = some (.int .u16 pid) := ⟨cell_of hD6 rfl, cell_of hD6 rfl, cell_of hD6 rfl, cell_of hD6 rfl, cell_of hD6 rfl, cell_of hD6 rfl, cell_of hD6 rfl, cell_of hD6 rfl, cell_of hD6 rfl, cell_of hD6 rfl, cell_of hD6 rfl, cell_of hD6 rfl, cell_of hD6 rfl, cell_of hG6 rfl⟩
  have HW : Hid (∀ W, Calls Try.prog 16 #[.agg #[.bool nr, .bool st, .int .u8 pt, .bool true, .bool false, .int .u16 pid, .bool ht, .int .u8 tl, .bool hT, .int .u8 tid, .bool ls, .bool hk, .int .u8 ky]] W fun e w' => e = .returned (.int .u32 128) ∧ Below W.heap.size W w') := fun W => wid_calls nr st true false ht hT ls hk pt pid tl tid ky W
  have HG : Hid ((IntKind.u32.wrap pid == (IntKind.u32.wrap (IntKind.u32.wrap prev + 1)).tmod 128) = true) := by
    show _ = _
    have e1 : IntKind.u32.wrap pid = pid := by rw [IntKind.wrap_u32']; omega
    have e2 : IntKind.u32.wrap (IntKind.u32.wrap prev + 1) = prev + 1 := by rw [IntKind.wrap_u32', IntKind.wrap_u32']; omega
    rw [e1, e2, Int.tmod_eq_emod_of_nonneg (by omega), beq_iff_eq]
    exact HP.out
  clear f0 f1 f2 f3 f4 f5 f6 f7 f8 f9 f10 f11 f12
  go_region_held3 (fun W => W.cell? ⟨w.heap.size, 0, none⟩ = some (.bool nr) ∧ W.cell? ⟨w.heap.size, 1, none⟩ = some (.bool st) ∧ W.cell? ⟨w.heap.size, 2, none⟩ = some (.int .u8 pt) ∧ W.cell? ⟨w.heap.size, 3, none⟩ = some (.bool true) ∧ W.cell? ⟨w.heap.size, 4, none⟩ = some (.bool false) ∧ W.cell? ⟨w.heap.size, 5, none⟩ = some (.int .u16 pid) ∧ W.cell? ⟨w.heap.size, 6, none⟩ = some (.bool ht) ∧ W.cell? ⟨w.heap.size, 7, none⟩ = some (.int .u8 tl) ∧ W.cell? ⟨w.heap.size, 8, none⟩ = some (.bool hT) ∧ W.cell? ⟨w.heap.size, 9, none⟩ = some (.int .u8 tid) ∧ W.cell? ⟨w.heap.size, 10, none⟩ = some (.bool ls) ∧ W.cell? ⟨w.heap.size, 11, none⟩ = some (.bool hk) ∧ W.cell? ⟨w.heap.size, 12, none⟩ = some (.int .u8 ky) ∧ W.cell? ⟨x5.heap.size, 5, none⟩ = some (.int .u16 pid)) (first | exact K7 | exact K6) (first | (go_at_call 16; refine (HW.out _).mono ?_; rintro e x7 ⟨rfl, b7⟩; have hD7 := (b7.block w.heap.size (by show _ < (x5.alloc (.cells #[.bool nr, .bool st, .int .u8 (pt % 8), .bool true, .bool false, .int .u16 pid, .bool ht, .int .u8 (cTl ht tl), .bool hT, .int .u8 (cTid hT tid), .bool (hT && ls), .bool hk, .int .u8 (cKy hk ky)] 24)).heap.size; rw [World.size_alloc]; omega)).trans hD6; have hG7 := (b7.block x5.heap.size (by show _ < (x5.alloc (.cells #[.bool nr, .bool st, .int .u8 (pt % 8), .bool true, .bool false, .int .u16 pid, .bool ht, .int .u8 (cTl ht tl), .bool hT, .int .u8 (cTid hT tid), .bool (hT && ls), .bool hk, .int .u8 (cKy hk ky)] 24)).heap.size; rw [World.size_alloc]; omega)).trans hG6; have K7 : x7.cell? ⟨w.heap.size, 0, none⟩ = some (.bool nr) ∧ x7.cell? ⟨w.heap.size, 1, none⟩ = some (.bool st) ∧ x7.cell? ⟨w.heap.size, 2, none⟩ = some (.int .u8 pt) ∧ x7.cell? ⟨w.heap.size, 3, none⟩ = some (.bool true) ∧ x7.cell? ⟨w.heap.size, 4, none⟩ = some (.bool false) ∧ x7.cell? ⟨w.heap.size, 5, none⟩ = some (.int .u16 pid) ∧ x7.cell? ⟨w.heap.size, 6, none⟩ = some (.bool ht) ∧ x7.cell? ⟨w.heap.size, 7, none⟩ = some (.int .u8 tl) ∧ x7.cell? ⟨w.heap.size, 8, none⟩ = some (.bool hT) ∧ x7.cell? ⟨w.heap.size, 9, none⟩ = some (.int .u8 tid) ∧ x7.cell? ⟨w.heap.size, 10, none⟩ = some (.bool ls) ∧ x7.cell? ⟨w.heap.size, 11, none⟩ = some (.bool hk) ∧ x7.cell? ⟨w.heap.size, 12, none⟩ = some (.int .u8 ky) ∧ x7.cell? ⟨x5.heap.size, 5, none⟩ = some (.int .u16 pid) := ⟨cell_of hD7 rfl, cell_of hD7 rfl, cell_of hD7 rfl, cell_of hD7 rfl, cell_of hD7 rfl, cell_of hD7 rfl, cell_of hD7 rfl, cell_of hD7 rfl, cell_of hD7 rfl, cell_of hD7 rfl, cell_of hD7 rfl, cell_of hD7 rfl, cell_of hD7 rfl, cell_of hG7 rfl⟩))
  go_wp2
  go_ret
  exact ⟨ret_b HG.out, ((BW.alloc BW.size _).drew).trans (b7.mono (by show w.heap.size ≤ (x5.alloc (.cells #[.bool nr, .bool st, .int .u8 (pt % 8), .bool true, .bool false, .int .u16 pid, .bool ht, .int .u8 (cTl ht tl), .bool hT, .int .u8 (cTid hT tid), .bool (hT && ls), .bool hk, .int .u8 (cKy hk ky)] 24)).heap.size; rw [World.size_alloc]; omega))⟩

set_option maxRecDepth 100000 in
set_option maxHeartbeats 4000000 in
theorem fol_true (nr st ht hT ls hk : Bool) (pt pid tl tid ky prev : Int) (d0a : 0 ≤ pt) (d0b : pt ≤ 255) (d1a : 0 ≤ pid) (d1b : pid ≤ 65535) (d2a : 0 ≤ tid) (d2b : tid ≤ 255) (d3a : 0 ≤ ky) (d3b : ky ≤ 255) (v0 : 0 ≤ prev) (v1 : prev ≤ 65535) (w : World)
    (HP : Hid (pid = (prev + 1) % 32768)) :
    Calls Try.prog 7 #[.agg #[.bool nr, .bool st, .int .u8 pt, .bool true, .bool true, .int .u16 pid, .bool ht, .int .u8 tl, .bool hT, .int .u8 tid, .bool ls, .bool hk, .int .u8 ky], .int .u16 prev] w fun e w' => e = .returned (.bool true) ∧ Below w.heap.size w w' := by
  have HF : Hid (fol true true pid prev = true) := by
    show (true && (pid == (prev + 1) % wid true)) = true
    rw [HP.out]
    exact beq_self_eq_true _
  have HC : Hid (cPid true true pid = pid) := by
    have := HP.out
    show pid % 32768 = pid
    omega
  go_enter Try.func7, Try.ntmps7
  go_wp2_with fail
  refine (to_media nr st true true ht hT ls hk pt pid tl tid ky _).mono ?_
  rintro e x1 ⟨rfl, b1⟩
  go_wp2_with fail
  refine (fol_calls nr st true true ht hT ls hk pt pid tl tid ky prev _).mono ?_
  rintro e x2 ⟨rfl, b2⟩
  rw [HF.out]
  have B2 : Below (w.heap.size + 1) (w.alloc (.cells #[.bool nr, .bool st, .int .u8 pt, .bool true, .bool true, .int .u16 pid, .bool ht, .int .u8 tl, .bool hT, .int .u8 tid, .bool ls, .bool hk, .int .u8 ky] 24)) x2 := (b1.mono (by simp)).trans (b2.mono (by have := b1.size; simp at this; omega))
  have hs2 := B2.size
  simp only [World.size_alloc] at hs2
  have hD : x2.heap[w.heap.size]? = some (.cells #[.bool nr, .bool st, .int .u8 pt, .bool true, .bool true, .int .u16 pid, .bool ht, .int .u8 tl, .bool hT, .int .u8 tid, .bool ls, .bool hk, .int .u8 ky] 24) := by
    rw [B2.block _ (by omega)]
    exact heap_alloc_new _ _
  obtain ⟨f0, f1, f2, f3, f4, f5, f6, f7, f8, f9, f10, f11, f12⟩ := cells13 hD
  go_wp2_with fail
  refine (to_media nr st true true ht hT ls hk pt pid tl tid ky _).mono ?_
  rintro e x3 ⟨rfl, b3⟩
  clear f0 f1 f2 f3 f4 f5 f6 f7 f8 f9 f10 f11 f12
  go_wp2_with fail
  refine (app_calls nr st true true ht hT ls hk pt pid tl tid ky (.slice none 0 0) [] _ d0a d0b d1a d1b d2a d2b d3a d3b (by simp) (.inl ⟨rfl, rfl⟩)).mono ?_
  rintro e x4 ⟨v1', rfl, o1, b4⟩
  have HR : RowO x4 v1' (bytesOf nr st pt true true pid ht tl hT tid ls hk ky) := RowO.of_at (RowAt.of_owns (by simpa using o1) (bytes_ne nr st true true ht hT ls hk pt pid tl tid ky))
  clear o1
  go_wp2_with fail
  refine (read_calls nr st true true ht hT ls hk pt pid tl tid ky v1' _ HR d0a d1a d1b).mono ?_
  rintro e x5 ⟨rfl, b5⟩
  rw [HC.out]
  have B5 : Below x2.heap.size x2 x5 := b3.trans ((b4.mono b3.size).trans (b5.mono (Nat.le_trans b3.size b4.size)))
  have hs5 := B5.size
  have hD5 : x5.heap[w.heap.size]? = some (.cells #[.bool nr, .bool st, .int .u8 pt, .bool true, .bool true, .int .u16 pid, .bool ht, .int .u8 tl, .bool hT, .int .u8 tid, .bool ls, .bool hk, .int .u8 ky] 24) := (B5.block _ (by omega)).trans hD
  obtain ⟨f0, f1, f2, f3, f4, f5, f6, f7, f8, f9, f10, f11, f12⟩ := cells13 hD5
  have hlt : w.heap.size < x5.heap.size := by omega
  have BW : Below w.heap.size w x5 := ((Below.refl _ _).alloc (Nat.le_refl _) _).trans ((B2.mono (by omega)).trans (B5.mono (by omega)))
  go_wp2_with fail
  have hD6 : (x5.alloc (.cells #[.bool nr, .bool st, .int .u8 (pt % 8), .bool true, .bool true, .int .u16 pid, .bool ht, .int .u8 (cTl ht tl), .bool hT, .int .u8 (cTid hT tid), .bool (hT && ls), .bool hk, .int .u8 (cKy hk ky)] 24)).heap[w.heap.size]? = some (.cells #[.bool nr, .bool st, .int .u8 pt, .bool true, .bool true, .int .u16 pid, .bool ht, .int .u8 tl, .bool hT, .int .u8 tid, .bool ls, .bool hk, .int .u8 ky] 24) := (Below.heap_alloc _ _ _ hlt).trans hD5
  have hG6 : (x5.alloc (.cells #[.bool nr, .bool st, .int .u8 (pt % 8), .bool true, .bool true, .int .u16 pid, .bool ht, .int .u8 (cTl ht tl), .bool hT, .int .u8 (cTid hT tid), .bool (hT && ls), .bool hk, .int .u8 (cKy hk ky)] 24)).heap[x5.heap.size]? = some (.cells #[.bool nr, .bool st, .int .u8 (pt % 8), .bool true, .bool true, .int .u16 pid, .bool ht, .int .u8 (cTl ht tl), .bool hT, .int .u8 (cTid hT tid), .bool (hT && ls), .bool hk, .int .u8 (cKy hk ky)] 24) := heap_alloc_new _ _
  have K6 : (x5.alloc (.cells #[.bool nr, .bool st, .int .u8 (pt % 8), .bool true, .bool true, .int .u16 pid, .bool ht, .int .u8 (cTl ht tl), .bool hT, .int .u8 (cTid hT tid), .bool (hT && ls), .bool hk, .int .u8 (cKy hk ky)] 24)).cell? ⟨w.heap.size, 0, none⟩ = some (.bool nr) ∧ (x5.alloc (.cells #[.bool nr, .bool st, .int .u8 (pt % 8), .bool true, .bool true, .int .u16 pid, .bool ht, .int .u8 (cTl ht tl), .bool hT, .int .u8 (cTid hT tid), .bool (hT && ls), .bool hk, .int .u8 (cKy hk ky)] 24)).cell? ⟨w.heap.size, 1, none⟩ = some (.bool st) ∧ (x5.alloc (.cells #[.bool nr, .bool st, .int .u8 (pt % 8), .bool true, .bool true, .int .u16 pid, .bool ht, .int .u8 (cTl ht tl), .bool hT, .int .u8 (cTid hT tid), .bool (hT && ls), .bool hk, .int .u8 (cKy hk ky)] 24)).cell? ⟨w.heap.size, 2, none⟩ = some (.int .u8 pt) ∧ (x5.alloc (.cells #[.bool nr, .bool st, .int .u8 (pt % 8), .bool true, .bool true, .int .u16 pid, .bool ht, .int .u8 (cTl ht tl), .bool hT, .int .u8 (cTid hT tid), .bool (hT && ls), .bool hk, .int .u8 (cKy hk ky)] 24)).cell? ⟨w.heap.size, 3, none⟩ = some (.bool true) ∧ (x5.alloc (.cells #[.bool nr, .bool st, .int .u8 (pt % 8), .bool true, .bool true, .int .u16 pid, .bool ht, .int .u8 (cTl ht tl), .bool hT, .int .u8 (cTid hT tid), .bool (hT && ls), .bool hk, .int .u8 (cKy hk ky)] 24)).cell? ⟨w.heap.size, 4, none⟩ = some (.bool true) ∧ (x5.alloc (.cells #[.bool nr, .bool st, .int .u8 (pt % 8), .bool true, .bool true, .int .u16 pid, .bool ht, .int .u8 (cTl ht tl), .bool hT, .int .u8 (cTid hT tid), .bool (hT && ls), .bool hk, .int .u8 (cKy hk ky)] 24)).cell? ⟨w.heap.size, 5, none⟩ = some (.int .u16 pid) ∧ (x5.alloc (.cells #[.bool nr, .bool st, .int .u8 (pt % 8), .bool true, .bool true, .int .u16 pid, .bool ht, .int .u8 (cTl ht tl), .bool hT, .int .u8 (cTid hT tid), .bool (hT && ls), .bool hk, .int .u8 (cKy hk ky)] 24)).cell? ⟨w.heap.size, 6, none⟩ = some (.bool ht) ∧ (x5.alloc (.cells #[.bool nr, .bool st, .int .u8 (pt % 8), .bool true, .bool true, .int .u16 pid, .bool ht, .int .u8 (cTl ht tl), .bool hT, .int .u8 (cTid hT tid), .bool (hT && ls), .bool hk, .int .u8 (cKy hk ky)] 24)).cell? ⟨w.heap.size, 7, none⟩ = some (.int .u8 tl) ∧ (x5.alloc (.cells #[.bool nr, .bool st, .int .u8 (pt % 8), .bool true, .bool true, .int .u16 pid, .bool ht, .int .u8 (cTl ht tl), .bool hT, .int .u8 (cTid hT tid), .bool (hT && ls), .bool hk, .int .u8 (cKy hk ky)] 24)).cell? ⟨w.heap.size, 8, none⟩ = some (.bool hT) ∧ (x5.alloc (.cells #[.bool nr, .bool st, .int .u8 (pt % 8), .bool true, .bool true, .int .u16 pid, .bool ht, .int .u8 (cTl ht tl), .bool hT, .int .u8 (cTid hT tid), .bool (hT && ls), .bool hk, .int .u8 (cKy hk ky)] 24)).cell? ⟨w.heap.size, 9, none⟩ = some (.int .u8 tid) ∧ (x5.alloc (.cells #[.bool nr, .bool st, .int .u8 (pt % 8), .bool true, .bool true, .int .u16 pid, .bool ht, .int .u8 (cTl ht tl), .bool hT, .int .u8 (cTid hT tid), .bool (hT && ls), .bool hk, .int .u8 (cKy hk ky)] 24)).cell? ⟨w.heap.size, 10, none⟩ = some (.bool ls) ∧ (x5.alloc (.cells #[.bool nr, .bool st, .int .u8 (pt % 8), .bool true, .bool true, .int .u16 pid, .bool ht, .int .u8 (cTl ht tl), .bool hT, .int .u8 (cTid hT tid), .bool (hT && ls), .bool hk, .int .u8 (cKy hk ky)] 24)).cell? ⟨w.heap.size, 11, none⟩ = some (.bool hk) ∧ (x5.alloc (.cells #[.bool nr, .bool st, .int .u8 (pt % 8), .bool true, .bool true, .int .u16 pid, .bool ht, .int .u8 (cTl ht tl), .bool hT, .int .u8 (cTid hT tid), .bool (hT && ls), .bool hk, .int .u8 (cKy hk ky)] 24)).cell? ⟨w.heap.size, 12, none⟩ = some (.int .u8 ky) ∧ (x5.alloc (.cells #[.bool nr, .bool st, .int .u8 (pt % 8), .bool true, .bool true, .int .u16 pid, .bool ht, .int .u8 (cTl ht tl), .bool hT, .int .u8 (cTid hT tid), .bool (hT && ls), .bool hk, .int .u8 (cKy hk ky)] 24)).cell? ⟨x5.heap.size, 5, none⟩ = some (.int .u16 pid) := ⟨cell_of hD6 rfl, cell_of hD6 rfl, cell_of hD6 rfl, cell_of hD6 rfl, cell_of hD6 rfl, cell_of hD6 rfl, cell_of hD6 rfl, cell_of hD6 rfl, cell_of hD6 rfl, cell_of hD6 rfl, cell_of hD6 rfl, cell_of hD6 rfl, cell_of hD6 rfl, cell_of hG6 rfl⟩
  have HW : Hid (∀ W, Calls Try.prog 16 #[.agg #[.bool nr, .bool st, .int .u8 pt, .bool true, .bool true, .int .u16 pid, .bool ht, .int .u8 tl, .bool hT, .int .u8 tid, .bool ls, .bool hk, .int .u8 ky]] W fun e w' => e = .returned (.int .u32 32768) ∧ Below W.heap.size W w') := fun W => wid_calls nr st true true ht hT ls hk pt pid tl tid ky W
  have HG : Hid ((IntKind.u32.wrap pid == (IntKind.u32.wrap (IntKind.u32.wrap prev + 1)).tmod 32768) = true) := by
    show _ = _
    have e1 : IntKind.u32.wrap pid = pid := by rw [IntKind.wrap_u32']; omega
    have e2 : IntKind.u32.wrap (IntKind.u32.wrap prev + 1) = prev + 1 := by rw [IntKind.wrap_u32', IntKind.wrap_u32']; omega
    rw [e1, e2, Int.tmod_eq_emod_of_nonneg (by omega), beq_iff_eq]
    exact HP.out
  clear f0 f1 f2 f3 f4 f5 f6 f7 f8 f9 f10 f11 f12
  go_region_held3 (fun W => W.cell? ⟨w.heap.size, 0, none⟩ = some (.bool nr) ∧ W.cell? ⟨w.heap.size, 1, none⟩ = some (.bool st) ∧ W.cell? ⟨w.heap.size, 2, none⟩ = some (.int .u8 pt) ∧ W.cell? ⟨w.heap.size, 3, none⟩ = some (.bool true) ∧ W.cell? ⟨w.heap.size, 4, none⟩ = some (.bool true) ∧ W.cell? ⟨w.heap.size, 5, none⟩ = some (.int .u16 pid) ∧ W.cell? ⟨w.heap.size, 6, none⟩ = some (.bool ht) ∧ W.cell? ⟨w.heap.size, 7, none⟩ = some (.int .u8 tl) ∧ W.cell? ⟨w.heap.size, 8, none⟩ = some (.bool hT) ∧ W.cell? ⟨w.heap.size, 9, none⟩ = some (.int .u8 tid) ∧ W.cell? ⟨w.heap.size, 10, none⟩ = some (.bool ls) ∧ W.cell? ⟨w.heap.size, 11, none⟩ = some (.bool hk) ∧ W.cell? ⟨w.heap.size, 12, none⟩ = some (.int .u8 ky) ∧ W.cell? ⟨x5.heap.size, 5, none⟩ = some (.int .u16 pid)) (first | exact K7 | exact K6) (first | (go_at_call 16; refine (HW.out _).mono ?_; rintro e x7 ⟨rfl, b7⟩; have hD7 := (b7.block w.heap.size (by show _ < (x5.alloc (.cells #[.bool nr, .bool st, .int .u8 (pt % 8), .bool true, .bool true, .int .u16 pid, .bool ht, .int .u8 (cTl ht tl), .bool hT, .int .u8 (cTid hT tid), .bool (hT && ls), .bool hk, .int .u8 (cKy hk ky)] 24)).heap.size; rw [World.size_alloc]; omega)).trans hD6; have hG7 := (b7.block x5.heap.size (by show _ < (x5.alloc (.cells #[.bool nr, .bool st, .int .u8 (pt % 8), .bool true, .bool true, .int .u16 pid, .bool ht, .int .u8 (cTl ht tl), .bool hT, .int .u8 (cTid hT tid), .bool (hT && ls), .bool hk, .int .u8 (cKy hk ky)] 24)).heap.size; rw [World.size_alloc]; omega)).trans hG6; have K7 : x7.cell? ⟨w.heap.size, 0, none⟩ = some (.bool nr) ∧ x7.cell? ⟨w.heap.size, 1, none⟩ = some (.bool st) ∧ x7.cell? ⟨w.heap.size, 2, none⟩ = some (.int .u8 pt) ∧ x7.cell? ⟨w.heap.size, 3, none⟩ = some (.bool true) ∧ x7.cell? ⟨w.heap.size, 4, none⟩ = some (.bool true) ∧ x7.cell? ⟨w.heap.size, 5, none⟩ = some (.int .u16 pid) ∧ x7.cell? ⟨w.heap.size, 6, none⟩ = some (.bool ht) ∧ x7.cell? ⟨w.heap.size, 7, none⟩ = some (.int .u8 tl) ∧ x7.cell? ⟨w.heap.size, 8, none⟩ = some (.bool hT) ∧ x7.cell? ⟨w.heap.size, 9, none⟩ = some (.int .u8 tid) ∧ x7.cell? ⟨w.heap.size, 10, none⟩ = some (.bool ls) ∧ x7.cell? ⟨w.heap.size, 11, none⟩ = some (.bool hk) ∧ x7.cell? ⟨w.heap.size, 12, none⟩ = some (.int .u8 ky) ∧ x7.cell? ⟨x5.heap.size, 5, none⟩ = some (.int .u16 pid) := ⟨cell_of hD7 rfl, cell_of hD7 rfl, cell_of hD7 rfl, cell_of hD7 rfl, cell_of hD7 rfl, cell_of hD7 rfl, cell_of hD7 rfl, cell_of hD7 rfl, cell_of hD7 rfl, cell_of hD7 rfl, cell_of hD7 rfl, cell_of hD7 rfl, cell_of hD7 rfl, cell_of hG7 rfl⟩))
  go_wp2
  go_ret
  exact ⟨ret_b HG.out, ((BW.alloc BW.size _).drew).trans (b7.mono (by show w.heap.size ≤ (x5.alloc (.cells #[.bool nr, .bool st, .int .u8 (pt % 8), .bool true, .bool true, .int .u16 pid, .bool ht, .int .u8 (cTl ht tl), .bool hT, .int .u8 (cTid hT tid), .bool (hT && ls), .bool hk, .int .u8 (cKy hk ky)] 24)).heap.size; rw [World.size_alloc]; omega))⟩

theorem fol_no (nr st hp lp ht hT ls hk : Bool) (pt pid tl tid ky prev : Int) (w : World) (HF : Hid (fol hp lp pid prev = false)) :
    Calls Try.prog 7 #[.agg #[.bool nr, .bool st, .int .u8 pt, .bool hp, .bool lp, .int .u16 pid, .bool ht, .int .u8 tl, .bool hT, .int .u8 tid, .bool ls, .bool hk, .int .u8 ky], .int .u16 prev] w fun e w' => e = .returned (.bool true) ∧ Below w.heap.size w w' := by
  go_enter Try.func7, Try.ntmps7
  go_wp2_with fail
  refine (to_media nr st hp lp ht hT ls hk pt pid tl tid ky _).mono ?_
  rintro e x1 ⟨rfl, b1⟩
  go_wp2_with fail
  refine (fol_calls nr st hp lp ht hT ls hk pt pid tl tid ky prev _).mono ?_
  rintro e x2 ⟨rfl, b2⟩
  rw [HF.out]
  go_wp2
  go_ret
  exact ⟨rfl, (((Below.refl _ _).alloc (Nat.le_refl _) _).trans (b1.mono (by simp))).trans (b2.mono (by have := b1.size; simp at this; omega))⟩

theorem fol_walk (nr st hp lp ht hT ls hk : Bool) (pt pid tl tid ky : Int) (d0a : 0 ≤ pt) (d0b : pt ≤ 255) (d1a : 0 ≤ pid) (d1b : pid ≤ 65535) (d2a : 0 ≤ tid) (d2b : tid ≤ 255) (d3a : 0 ≤ ky) (d3b : ky ≤ 255) (prev : Int) (v0 : 0 ≤ prev) (v1 : prev ≤ 65535) (w : World) :
    Calls Try.prog 7 #[.agg #[.bool nr, .bool st, .int .u8 pt, .bool hp, .bool lp, .int .u16 pid, .bool ht, .int .u8 tl, .bool hT, .int .u8 tid, .bool ls, .bool hk, .int .u8 ky], .int .u16 prev] w fun e w' => e = .returned (.bool true) ∧ Below w.heap.size w w' := by
  cases hF : fol hp lp pid prev
  · exact fol_no nr st hp lp ht hT ls hk pt pid tl tid ky prev w hF
  · unfold fol at hF
    rw [Bool.and_eq_true, beq_iff_eq] at hF
    obtain ⟨rfl, hpid⟩ := hF
    cases lp
    · exact fol_false nr st ht hT ls hk pt pid tl tid ky prev d0a d0b d1a d1b d2a d2b d3a d3b v0 v1 w hpid
    · exact fol_true nr st ht hT ls hk pt pid tl tid ky prev d0a d0b d1a d1b d2a d2b d3a d3b v0 v1 w hpid

end Go.Proofs.Qxb6600572a
