import Derived.Test.Qxb6600572aRows
import Derived.WalkKit
import Derived.WalkSpells
import Derived.WalkLawsBesides
import Derived.RegionTactic
import Derived.BigRegion
namespace Go.Proofs.Qxb6600572a
open Go.RowKit

/-! ### decodeVP8 (function 12), by which fields are there: what it reads off the bytes -/
theorem dec_below (w : World) (a b : Array Value) (t : TypeId) (u : TypeId) : Below w.heap.size w ((w.alloc (.cells a t)).alloc (.cells b u)) := ((Below.refl _ _).alloc (Nat.le_refl _) _).alloc (by simp) _

set_option maxRecDepth 100000 in
set_option maxHeartbeats 2000000 in
theorem dec_00000 (f : Int) (g off cap : Nat) (w : World) (hg : g < w.heap.size) (f0 : 0 ≤ f) (f1 : f ≤ 255) (g1 : (f / 64 % 2 == 1) = false) (g2 : (f / 8 % 2 == 1) = false) (g3 : f < 128) (c0 : w.cell? ⟨g, off, none⟩ = some (.int .u8 f)) :
    Calls Try.prog 12 #[.slice (some ⟨g, off, none⟩) 1 cap] w fun e w' => e = .returned (.tuple #[.agg #[.bool (f / 32 % 2 == 1), .bool (f / 16 % 2 == 1), .int .u8 (f % 8), .bool false, .bool false, .int .u16 0, .bool false, .int .u8 0, .bool false, .int .u8 0, .bool false, .bool false, .int .u8 0], .bool true]) ∧ Below w.heap.size w w' := by
  go_enter Try.func12, Try.ntmps12
  go_wp2
  refine bodyPost_ret (v := .tuple #[.agg #[.bool (f / 32 % 2 == 1), .bool (f / 16 % 2 == 1), .int .u8 (f % 8), .bool false, .bool false, .int .u16 0, .bool false, .int .u8 0, .bool false, .int .u8 0, .bool false, .bool false, .int .u8 0], .bool true]) (by simp [results, Try.results12, go_sem]) rfl ⟨rfl, ?_⟩
  exact dec_below _ _ _ _ _

set_option maxRecDepth 100000 in
set_option maxHeartbeats 2000000 in
theorem dec_00001 (f t : Int) (g off cap : Nat) (w : World) (hg : g < w.heap.size) (f0 : 0 ≤ f) (f1 : f ≤ 255) (g1 : (f / 64 % 2 == 1) = false) (g2 : (f / 8 % 2 == 1) = false) (g3 : 128 ≤ f) (t0 : 0 ≤ t) (t1 : t ≤ 255) (t2 : t < 32) (c0 : w.cell? ⟨g, off, none⟩ = some (.int .u8 f)) (c1 : w.cell? ⟨g, off + 1, none⟩ = some (.int .u8 16)) (c2 : w.cell? ⟨g, off + 2, none⟩ = some (.int .u8 t)) :
    Calls Try.prog 12 #[.slice (some ⟨g, off, none⟩) 3 cap] w fun e w' => e = .returned (.tuple #[.agg #[.bool (f / 32 % 2 == 1), .bool (f / 16 % 2 == 1), .int .u8 (f % 8), .bool false, .bool false, .int .u16 0, .bool false, .int .u8 0, .bool false, .int .u8 0, .bool false, .bool true, .int .u8 (t % 32)], .bool true]) ∧ Below w.heap.size w w' := by
  go_enter Try.func12, Try.ntmps12
  go_wp2
  refine bodyPost_ret (v := .tuple #[.agg #[.bool (f / 32 % 2 == 1), .bool (f / 16 % 2 == 1), .int .u8 (f % 8), .bool false, .bool false, .int .u16 0, .bool false, .int .u8 0, .bool false, .int .u8 0, .bool false, .bool true, .int .u8 (t % 32)], .bool true]) (by simp [results, Try.results12, go_sem]) rfl ⟨rfl, ?_⟩
  exact dec_below _ _ _ _ _

set_option maxRecDepth 100000 in
set_option maxHeartbeats 2000000 in
theorem dec_00010 (f t : Int) (g off cap : Nat) (w : World) (hg : g < w.heap.size) (f0 : 0 ≤ f) (f1 : f ≤ 255) (g1 : (f / 64 % 2 == 1) = false) (g2 : (f / 8 % 2 == 1) = false) (g3 : 128 ≤ f) (t0 : 0 ≤ t) (t1 : t ≤ 255) (t3 : (t % 32 != 0) = false) (c0 : w.cell? ⟨g, off, none⟩ = some (.int .u8 f)) (c1 : w.cell? ⟨g, off + 1, none⟩ = some (.int .u8 32)) (c2 : w.cell? ⟨g, off + 2, none⟩ = some (.int .u8 t)) :
    Calls Try.prog 12 #[.slice (some ⟨g, off, none⟩) 3 cap] w fun e w' => e = .returned (.tuple #[.agg #[.bool (f / 32 % 2 == 1), .bool (f / 16 % 2 == 1), .int .u8 (f % 8), .bool false, .bool false, .int .u16 0, .bool false, .int .u8 0, .bool true, .int .u8 (t / 64), .bool (t / 32 % 2 == 1), .bool false, .int .u8 0], .bool true]) ∧ Below w.heap.size w w' := by
  go_enter Try.func12, Try.ntmps12
  go_wp2
  refine bodyPost_ret (v := .tuple #[.agg #[.bool (f / 32 % 2 == 1), .bool (f / 16 % 2 == 1), .int .u8 (f % 8), .bool false, .bool false, .int .u16 0, .bool false, .int .u8 0, .bool true, .int .u8 (t / 64), .bool (t / 32 % 2 == 1), .bool false, .int .u8 0], .bool true]) (by simp [results, Try.results12, go_sem]) rfl ⟨rfl, ?_⟩
  exact dec_below _ _ _ _ _

set_option maxRecDepth 100000 in
set_option maxHeartbeats 2000000 in
theorem dec_00011 (f t : Int) (g off cap : Nat) (w : World) (hg : g < w.heap.size) (f0 : 0 ≤ f) (f1 : f ≤ 255) (g1 : (f / 64 % 2 == 1) = false) (g2 : (f / 8 % 2 == 1) = false) (g3 : 128 ≤ f) (t0 : 0 ≤ t) (t1 : t ≤ 255) (c0 : w.cell? ⟨g, off, none⟩ = some (.int .u8 f)) (c1 : w.cell? ⟨g, off + 1, none⟩ = some (.int .u8 48)) (c2 : w.cell? ⟨g, off + 2, none⟩ = some (.int .u8 t)) :
    Calls Try.prog 12 #[.slice (some ⟨g, off, none⟩) 3 cap] w fun e w' => e = .returned (.tuple #[.agg #[.bool (f / 32 % 2 == 1), .bool (f / 16 % 2 == 1), .int .u8 (f % 8), .bool false, .bool false, .int .u16 0, .bool false, .int .u8 0, .bool true, .int .u8 (t / 64), .bool (t / 32 % 2 == 1), .bool true, .int .u8 (t % 32)], .bool true]) ∧ Below w.heap.size w w' := by
  go_enter Try.func12, Try.ntmps12
  go_wp2
  refine bodyPost_ret (v := .tuple #[.agg #[.bool (f / 32 % 2 == 1), .bool (f / 16 % 2 == 1), .int .u8 (f % 8), .bool false, .bool false, .int .u16 0, .bool false, .int .u8 0, .bool true, .int .u8 (t / 64), .bool (t / 32 % 2 == 1), .bool true, .int .u8 (t % 32)], .bool true]) (by simp [results, Try.results12, go_sem]) rfl ⟨rfl, ?_⟩
  exact dec_below _ _ _ _ _

set_option maxRecDepth 100000 in
set_option maxHeartbeats 2000000 in
theorem dec_00100 (f T : Int) (g off cap : Nat) (w : World) (hg : g < w.heap.size) (f0 : 0 ≤ f) (f1 : f ≤ 255) (g1 : (f / 64 % 2 == 1) = false) (g2 : (f / 8 % 2 == 1) = false) (g3 : 128 ≤ f) (c0 : w.cell? ⟨g, off, none⟩ = some (.int .u8 f)) (c1 : w.cell? ⟨g, off + 1, none⟩ = some (.int .u8 64)) (c2 : w.cell? ⟨g, off + 2, none⟩ = some (.int .u8 T)) :
    Calls Try.prog 12 #[.slice (some ⟨g, off, none⟩) 3 cap] w fun e w' => e = .returned (.tuple #[.agg #[.bool (f / 32 % 2 == 1), .bool (f / 16 % 2 == 1), .int .u8 (f % 8), .bool false, .bool false, .int .u16 0, .bool true, .int .u8 T, .bool false, .int .u8 0, .bool false, .bool false, .int .u8 0], .bool true]) ∧ Below w.heap.size w w' := by
  go_enter Try.func12, Try.ntmps12
  go_wp2
  refine bodyPost_ret (v := .tuple #[.agg #[.bool (f / 32 % 2 == 1), .bool (f / 16 % 2 == 1), .int .u8 (f % 8), .bool false, .bool false, .int .u16 0, .bool true, .int .u8 T, .bool false, .int .u8 0, .bool false, .bool false, .int .u8 0], .bool true]) (by simp [results, Try.results12, go_sem]) rfl ⟨rfl, ?_⟩
  exact dec_below _ _ _ _ _

set_option maxRecDepth 100000 in
set_option maxHeartbeats 2000000 in
theorem dec_00101 (f T t : Int) (g off cap : Nat) (w : World) (hg : g < w.heap.size) (f0 : 0 ≤ f) (f1 : f ≤ 255) (g1 : (f / 64 % 2 == 1) = false) (g2 : (f / 8 % 2 == 1) = false) (g3 : 128 ≤ f) (t0 : 0 ≤ t) (t1 : t ≤ 255) (t2 : t < 32) (c0 : w.cell? ⟨g, off, none⟩ = some (.int .u8 f)) (c1 : w.cell? ⟨g, off + 1, none⟩ = some (.int .u8 80)) (c2 : w.cell? ⟨g, off + 2, none⟩ = some (.int .u8 T)) (c3 : w.cell? ⟨g, off + 3, none⟩ = some (.int .u8 t)) :
    Calls Try.prog 12 #[.slice (some ⟨g, off, none⟩) 4 cap] w fun e w' => e = .returned (.tuple #[.agg #[.bool (f / 32 % 2 == 1), .bool (f / 16 % 2 == 1), .int .u8 (f % 8), .bool false, .bool false, .int .u16 0, .bool true, .int .u8 T, .bool false, .int .u8 0, .bool false, .bool true, .int .u8 (t % 32)], .bool true]) ∧ Below w.heap.size w w' := by
  go_enter Try.func12, Try.ntmps12
  go_wp2
  refine bodyPost_ret (v := .tuple #[.agg #[.bool (f / 32 % 2 == 1), .bool (f / 16 % 2 == 1), .int .u8 (f % 8), .bool false, .bool false, .int .u16 0, .bool true, .int .u8 T, .bool false, .int .u8 0, .bool false, .bool true, .int .u8 (t % 32)], .bool true]) (by simp [results, Try.results12, go_sem]) rfl ⟨rfl, ?_⟩
  exact dec_below _ _ _ _ _

set_option maxRecDepth 100000 in
set_option maxHeartbeats 2000000 in
theorem dec_00110 (f T t : Int) (g off cap : Nat) (w : World) (hg : g < w.heap.size) (f0 : 0 ≤ f) (f1 : f ≤ 255) (g1 : (f / 64 % 2 == 1) = false) (g2 : (f / 8 % 2 == 1) = false) (g3 : 128 ≤ f) (t0 : 0 ≤ t) (t1 : t ≤ 255) (t3 : (t % 32 != 0) = false) (c0 : w.cell? ⟨g, off, none⟩ = some (.int .u8 f)) (c1 : w.cell? ⟨g, off + 1, none⟩ = some (.int .u8 96)) (c2 : w.cell? ⟨g, off + 2, none⟩ = some (.int .u8 T)) (c3 : w.cell? ⟨g, off + 3, none⟩ = some (.int .u8 t)) :
    Calls Try.prog 12 #[.slice (some ⟨g, off, none⟩) 4 cap] w fun e w' => e = .returned (.tuple #[.agg #[.bool (f / 32 % 2 == 1), .bool (f / 16 % 2 == 1), .int .u8 (f % 8), .bool false, .bool false, .int .u16 0, .bool true, .int .u8 T, .bool true, .int .u8 (t / 64), .bool (t / 32 % 2 == 1), .bool false, .int .u8 0], .bool true]) ∧ Below w.heap.size w w' := by
  go_enter Try.func12, Try.ntmps12
  go_wp2
  refine bodyPost_ret (v := .tuple #[.agg #[.bool (f / 32 % 2 == 1), .bool (f / 16 % 2 == 1), .int .u8 (f % 8), .bool false, .bool false, .int .u16 0, .bool true, .int .u8 T, .bool true, .int .u8 (t / 64), .bool (t / 32 % 2 == 1), .bool false, .int .u8 0], .bool true]) (by simp [results, Try.results12, go_sem]) rfl ⟨rfl, ?_⟩
  exact dec_below _ _ _ _ _

set_option maxRecDepth 100000 in
set_option maxHeartbeats 2000000 in
theorem dec_00111 (f T t : Int) (g off cap : Nat) (w : World) (hg : g < w.heap.size) (f0 : 0 ≤ f) (f1 : f ≤ 255) (g1 : (f / 64 % 2 == 1) = false) (g2 : (f / 8 % 2 == 1) = false) (g3 : 128 ≤ f) (t0 : 0 ≤ t) (t1 : t ≤ 255) (c0 : w.cell? ⟨g, off, none⟩ = some (.int .u8 f)) (c1 : w.cell? ⟨g, off + 1, none⟩ = some (.int .u8 112)) (c2 : w.cell? ⟨g, off + 2, none⟩ = some (.int .u8 T)) (c3 : w.cell? ⟨g, off + 3, none⟩ = some (.int .u8 t)) :
    Calls Try.prog 12 #[.slice (some ⟨g, off, none⟩) 4 cap] w fun e w' => e = .returned (.tuple #[.agg #[.bool (f / 32 % 2 == 1), .bool (f / 16 % 2 == 1), .int .u8 (f % 8), .bool false, .bool false, .int .u16 0, .bool true, .int .u8 T, .bool true, .int .u8 (t / 64), .bool (t / 32 % 2 == 1), .bool true, .int .u8 (t % 32)], .bool true]) ∧ Below w.heap.size w w' := by
  go_enter Try.func12, Try.ntmps12
  go_wp2
  refine bodyPost_ret (v := .tuple #[.agg #[.bool (f / 32 % 2 == 1), .bool (f / 16 % 2 == 1), .int .u8 (f % 8), .bool false, .bool false, .int .u16 0, .bool true, .int .u8 T, .bool true, .int .u8 (t / 64), .bool (t / 32 % 2 == 1), .bool true, .int .u8 (t % 32)], .bool true]) (by simp [results, Try.results12, go_sem]) rfl ⟨rfl, ?_⟩
  exact dec_below _ _ _ _ _

set_option maxRecDepth 100000 in
set_option maxHeartbeats 2000000 in
theorem dec_10000 (f P : Int) (g off cap : Nat) (w : World) (hg : g < w.heap.size) (f0 : 0 ≤ f) (f1 : f ≤ 255) (g1 : (f / 64 % 2 == 1) = false) (g2 : (f / 8 % 2 == 1) = false) (g3 : 128 ≤ f) (a0 : 0 ≤ P) (a1 : P < 128) (c0 : w.cell? ⟨g, off, none⟩ = some (.int .u8 f)) (c1 : w.cell? ⟨g, off + 1, none⟩ = some (.int .u8 128)) (c2 : w.cell? ⟨g, off + 2, none⟩ = some (.int .u8 P)) :
    Calls Try.prog 12 #[.slice (some ⟨g, off, none⟩) 3 cap] w fun e w' => e = .returned (.tuple #[.agg #[.bool (f / 32 % 2 == 1), .bool (f / 16 % 2 == 1), .int .u8 (f % 8), .bool true, .bool false, .int .u16 P, .bool false, .int .u8 0, .bool false, .int .u8 0, .bool false, .bool false, .int .u8 0], .bool true]) ∧ Below w.heap.size w w' := by
  go_enter Try.func12, Try.ntmps12
  go_wp2
  refine bodyPost_ret (v := .tuple #[.agg #[.bool (f / 32 % 2 == 1), .bool (f / 16 % 2 == 1), .int .u8 (f % 8), .bool true, .bool false, .int .u16 P, .bool false, .int .u8 0, .bool false, .int .u8 0, .bool false, .bool false, .int .u8 0], .bool true]) (by simp [results, Try.results12, go_sem]) rfl ⟨rfl, ?_⟩
  exact dec_below _ _ _ _ _

set_option maxRecDepth 100000 in
set_option maxHeartbeats 2000000 in
theorem dec_10001 (f P t : Int) (g off cap : Nat) (w : World) (hg : g < w.heap.size) (f0 : 0 ≤ f) (f1 : f ≤ 255) (g1 : (f / 64 % 2 == 1) = false) (g2 : (f / 8 % 2 == 1) = false) (g3 : 128 ≤ f) (a0 : 0 ≤ P) (a1 : P < 128) (t0 : 0 ≤ t) (t1 : t ≤ 255) (t2 : t < 32) (c0 : w.cell? ⟨g, off, none⟩ = some (.int .u8 f)) (c1 : w.cell? ⟨g, off + 1, none⟩ = some (.int .u8 144)) (c2 : w.cell? ⟨g, off + 2, none⟩ = some (.int .u8 P)) (c3 : w.cell? ⟨g, off + 3, none⟩ = some (.int .u8 t)) :
    Calls Try.prog 12 #[.slice (some ⟨g, off, none⟩) 4 cap] w fun e w' => e = .returned (.tuple #[.agg #[.bool (f / 32 % 2 == 1), .bool (f / 16 % 2 == 1), .int .u8 (f % 8), .bool true, .bool false, .int .u16 P, .bool false, .int .u8 0, .bool false, .int .u8 0, .bool false, .bool true, .int .u8 (t % 32)], .bool true]) ∧ Below w.heap.size w w' := by
  go_enter Try.func12, Try.ntmps12
  go_wp2
  refine bodyPost_ret (v := .tuple #[.agg #[.bool (f / 32 % 2 == 1), .bool (f / 16 % 2 == 1), .int .u8 (f % 8), .bool true, .bool false, .int .u16 P, .bool false, .int .u8 0, .bool false, .int .u8 0, .bool false, .bool true, .int .u8 (t % 32)], .bool true]) (by simp [results, Try.results12, go_sem]) rfl ⟨rfl, ?_⟩
  exact dec_below _ _ _ _ _

set_option maxRecDepth 100000 in
set_option maxHeartbeats 2000000 in
theorem dec_10010 (f P t : Int) (g off cap : Nat) (w : World) (hg : g < w.heap.size) (f0 : 0 ≤ f) (f1 : f ≤ 255) (g1 : (f / 64 % 2 == 1) = false) (g2 : (f / 8 % 2 == 1) = false) (g3 : 128 ≤ f) (a0 : 0 ≤ P) (a1 : P < 128) (t0 : 0 ≤ t) (t1 : t ≤ 255) (t3 : (t % 32 != 0) = false) (c0 : w.cell? ⟨g, off, none⟩ = some (.int .u8 f)) (c1 : w.cell? ⟨g, off + 1, none⟩ = some (.int .u8 160)) (c2 : w.cell? ⟨g, off + 2, none⟩ = some (.int .u8 P)) (c3 : w.cell? ⟨g, off + 3, none⟩ = some (.int .u8 t)) :
    Calls Try.prog 12 #[.slice (some ⟨g, off, none⟩) 4 cap] w fun e w' => e = .returned (.tuple #[.agg #[.bool (f / 32 % 2 == 1), .bool (f / 16 % 2 == 1), .int .u8 (f % 8), .bool true, .bool false, .int .u16 P, .bool false, .int .u8 0, .bool true, .int .u8 (t / 64), .bool (t / 32 % 2 == 1), .bool false, .int .u8 0], .bool true]) ∧ Below w.heap.size w w' := by
  go_enter Try.func12, Try.ntmps12
  go_wp2
  refine bodyPost_ret (v := .tuple #[.agg #[.bool (f / 32 % 2 == 1), .bool (f / 16 % 2 == 1), .int .u8 (f % 8), .bool true, .bool false, .int .u16 P, .bool false, .int .u8 0, .bool true, .int .u8 (t / 64), .bool (t / 32 % 2 == 1), .bool false, .int .u8 0], .bool true]) (by simp [results, Try.results12, go_sem]) rfl ⟨rfl, ?_⟩
  exact dec_below _ _ _ _ _

set_option maxRecDepth 100000 in
set_option maxHeartbeats 2000000 in
theorem dec_10011 (f P t : Int) (g off cap : Nat) (w : World) (hg : g < w.heap.size) (f0 : 0 ≤ f) (f1 : f ≤ 255) (g1 : (f / 64 % 2 == 1) = false) (g2 : (f / 8 % 2 == 1) = false) (g3 : 128 ≤ f) (a0 : 0 ≤ P) (a1 : P < 128) (t0 : 0 ≤ t) (t1 : t ≤ 255) (c0 : w.cell? ⟨g, off, none⟩ = some (.int .u8 f)) (c1 : w.cell? ⟨g, off + 1, none⟩ = some (.int .u8 176)) (c2 : w.cell? ⟨g, off + 2, none⟩ = some (.int .u8 P)) (c3 : w.cell? ⟨g, off + 3, none⟩ = some (.int .u8 t)) :
    Calls Try.prog 12 #[.slice (some ⟨g, off, none⟩) 4 cap] w fun e w' => e = .returned (.tuple #[.agg #[.bool (f / 32 % 2 == 1), .bool (f / 16 % 2 == 1), .int .u8 (f % 8), .bool true, .bool false, .int .u16 P, .bool false, .int .u8 0, .bool true, .int .u8 (t / 64), .bool (t / 32 % 2 == 1), .bool true, .int .u8 (t % 32)], .bool true]) ∧ Below w.heap.size w w' := by
  go_enter Try.func12, Try.ntmps12
  go_wp2
  refine bodyPost_ret (v := .tuple #[.agg #[.bool (f / 32 % 2 == 1), .bool (f / 16 % 2 == 1), .int .u8 (f % 8), .bool true, .bool false, .int .u16 P, .bool false, .int .u8 0, .bool true, .int .u8 (t / 64), .bool (t / 32 % 2 == 1), .bool true, .int .u8 (t % 32)], .bool true]) (by simp [results, Try.results12, go_sem]) rfl ⟨rfl, ?_⟩
  exact dec_below _ _ _ _ _

end Go.Proofs.Qxb6600572a
