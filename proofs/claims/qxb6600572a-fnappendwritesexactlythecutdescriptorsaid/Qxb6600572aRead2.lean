import Derived.Test.Qxb6600572aRead
import Derived.WalkKit
import Derived.WalkSpells
import Derived.WalkLawsBesides
import Derived.RegionTactic
import Derived.BigRegion
namespace Go.Proofs.Qxb6600572a
open Go.RowKit

/-! ### decodeVP8 (function 12), by which fields are there: what it reads off the bytes -/
set_option maxRecDepth 100000 in
set_option maxHeartbeats 2000000 in
theorem dec_10100 (f P T : Int) (g off cap : Nat) (w : World) (hg : g < w.heap.size) (f0 : 0 ≤ f) (f1 : f ≤ 255) (g1 : (f / 64 % 2 == 1) = false) (g2 : (f / 8 % 2 == 1) = false) (g3 : 128 ≤ f) (a0 : 0 ≤ P) (a1 : P < 128) (c0 : w.cell? ⟨g, off, none⟩ = some (.int .u8 f)) (c1 : w.cell? ⟨g, off + 1, none⟩ = some (.int .u8 192)) (c2 : w.cell? ⟨g, off + 2, none⟩ = some (.int .u8 P)) (c3 : w.cell? ⟨g, off + 3, none⟩ = some (.int .u8 T)) :
    Calls Try.prog 12 #[.slice (some ⟨g, off, none⟩) 4 cap] w fun e w' => e = .returned (.tuple #[.agg #[.bool (f / 32 % 2 == 1), .bool (f / 16 % 2 == 1), .int .u8 (f % 8), .bool true, .bool false, .int .u16 P, .bool true, .int .u8 T, .bool false, .int .u8 0, .bool false, .bool false, .int .u8 0], .bool true]) ∧ Below w.heap.size w w' := by
  go_enter Try.func12, Try.ntmps12
  go_wp2
  refine bodyPost_ret (v := .tuple #[.agg #[.bool (f / 32 % 2 == 1), .bool (f / 16 % 2 == 1), .int .u8 (f % 8), .bool true, .bool false, .int .u16 P, .bool true, .int .u8 T, .bool false, .int .u8 0, .bool false, .bool false, .int .u8 0], .bool true]) (by simp [results, Try.results12, go_sem]) rfl ⟨rfl, ?_⟩
  exact dec_below _ _ _ _ _

set_option maxRecDepth 100000 in
set_option maxHeartbeats 2000000 in
theorem dec_10101 (f P T t : Int) (g off cap : Nat) (w : World) (hg : g < w.heap.size) (f0 : 0 ≤ f) (f1 : f ≤ 255) (g1 : (f / 64 % 2 == 1) = false) (g2 : (f / 8 % 2 == 1) = false) (g3 : 128 ≤ f) (a0 : 0 ≤ P) (a1 : P < 128) (t0 : 0 ≤ t) (t1 : t ≤ 255) (t2 : t < 32) (c0 : w.cell? ⟨g, off, none⟩ = some (.int .u8 f)) (c1 : w.cell? ⟨g, off + 1, none⟩ = some (.int .u8 208)) (c2 : w.cell? ⟨g, off + 2, none⟩ = some (.int .u8 P)) (c3 : w.cell? ⟨g, off + 3, none⟩ = some (.int .u8 T)) (c4 : w.cell? ⟨g, off + 4, none⟩ = some (.int .u8 t)) :
    Calls Try.prog 12 #[.slice (some ⟨g, off, none⟩) 5 cap] w fun e w' => e = .returned (.tuple #[.agg #[.bool (f / 32 % 2 == 1), .bool (f / 16 % 2 == 1), .int .u8 (f % 8), .bool true, .bool false, .int .u16 P, .bool true, .int .u8 T, .bool false, .int .u8 0, .bool false, .bool true, .int .u8 (t % 32)], .bool true]) ∧ Below w.heap.size w w' := by
  go_enter Try.func12, Try.ntmps12
  go_wp2
  refine bodyPost_ret (v := .tuple #[.agg #[.bool (f / 32 % 2 == 1), .bool (f / 16 % 2 == 1), .int .u8 (f % 8), .bool true, .bool false, .int .u16 P, .bool true, .int .u8 T, .bool false, .int .u8 0, .bool false, .bool true, .int .u8 (t % 32)], .bool true]) (by simp [results, Try.results12, go_sem]) rfl ⟨rfl, ?_⟩
  exact dec_below _ _ _ _ _

set_option maxRecDepth 100000 in
set_option maxHeartbeats 2000000 in
theorem dec_10110 (f P T t : Int) (g off cap : Nat) (w : World) (hg : g < w.heap.size) (f0 : 0 ≤ f) (f1 : f ≤ 255) (g1 : (f / 64 % 2 == 1) = false) (g2 : (f / 8 % 2 == 1) = false) (g3 : 128 ≤ f) (a0 : 0 ≤ P) (a1 : P < 128) (t0 : 0 ≤ t) (t1 : t ≤ 255) (t3 : (t % 32 != 0) = false) (c0 : w.cell? ⟨g, off, none⟩ = some (.int .u8 f)) (c1 : w.cell? ⟨g, off + 1, none⟩ = some (.int .u8 224)) (c2 : w.cell? ⟨g, off + 2, none⟩ = some (.int .u8 P)) (c3 : w.cell? ⟨g, off + 3, none⟩ = some (.int .u8 T)) (c4 : w.cell? ⟨g, off + 4, none⟩ = some (.int .u8 t)) :
    Calls Try.prog 12 #[.slice (some ⟨g, off, none⟩) 5 cap] w fun e w' => e = .returned (.tuple #[.agg #[.bool (f / 32 % 2 == 1), .bool (f / 16 % 2 == 1), .int .u8 (f % 8), .bool true, .bool false, .int .u16 P, .bool true, .int .u8 T, .bool true, .int .u8 (t / 64), .bool (t / 32 % 2 == 1), .bool false, .int .u8 0], .bool true]) ∧ Below w.heap.size w w' := by
  go_enter Try.func12, Try.ntmps12
  go_wp2
  refine bodyPost_ret (v := .tuple #[.agg #[.bool (f / 32 % 2 == 1), .bool (f / 16 % 2 == 1), .int .u8 (f % 8), .bool true, .bool false, .int .u16 P, .bool true, .int .u8 T, .bool true, .int .u8 (t / 64), .bool (t / 32 % 2 == 1), .bool false, .int .u8 0], .bool true]) (by simp [results, Try.results12, go_sem]) rfl ⟨rfl, ?_⟩
  exact dec_below _ _ _ _ _

set_option maxRecDepth 100000 in
set_option maxHeartbeats 2000000 in
theorem dec_10111 (f P T t : Int) (g off cap : Nat) (w : World) (hg : g < w.heap.size) (f0 : 0 ≤ f) (f1 : f ≤ 255) (g1 : (f / 64 % 2 == 1) = false) (g2 : (f / 8 % 2 == 1) = false) (g3 : 128 ≤ f) (a0 : 0 ≤ P) (a1 : P < 128) (t0 : 0 ≤ t) (t1 : t ≤ 255) (c0 : w.cell? ⟨g, off, none⟩ = some (.int .u8 f)) (c1 : w.cell? ⟨g, off + 1, none⟩ = some (.int .u8 240)) (c2 : w.cell? ⟨g, off + 2, none⟩ = some (.int .u8 P)) (c3 : w.cell? ⟨g, off + 3, none⟩ = some (.int .u8 T)) (c4 : w.cell? ⟨g, off + 4, none⟩ = some (.int .u8 t)) :
    Calls Try.prog 12 #[.slice (some ⟨g, off, none⟩) 5 cap] w fun e w' => e = .returned (.tuple #[.agg #[.bool (f / 32 % 2 == 1), .bool (f / 16 % 2 == 1), .int .u8 (f % 8), .bool true, .bool false, .int .u16 P, .bool true, .int .u8 T, .bool true, .int .u8 (t / 64), .bool (t / 32 % 2 == 1), .bool true, .int .u8 (t % 32)], .bool true]) ∧ Below w.heap.size w w' := by
  go_enter Try.func12, Try.ntmps12
  go_wp2
  refine bodyPost_ret (v := .tuple #[.agg #[.bool (f / 32 % 2 == 1), .bool (f / 16 % 2 == 1), .int .u8 (f % 8), .bool true, .bool false, .int .u16 P, .bool true, .int .u8 T, .bool true, .int .u8 (t / 64), .bool (t / 32 % 2 == 1), .bool true, .int .u8 (t % 32)], .bool true]) (by simp [results, Try.results12, go_sem]) rfl ⟨rfl, ?_⟩
  exact dec_below _ _ _ _ _

set_option maxRecDepth 100000 in
set_option maxHeartbeats 2000000 in
theorem dec_11000 (f A B : Int) (g off cap : Nat) (w : World) (hg : g < w.heap.size) (f0 : 0 ≤ f) (f1 : f ≤ 255) (g1 : (f / 64 % 2 == 1) = false) (g2 : (f / 8 % 2 == 1) = false) (g3 : 128 ≤ f) (a0 : 128 ≤ A) (a1 : A ≤ 255) (b0 : 0 ≤ B) (b1 : B ≤ 255) (c0 : w.cell? ⟨g, off, none⟩ = some (.int .u8 f)) (c1 : w.cell? ⟨g, off + 1, none⟩ = some (.int .u8 128)) (c2 : w.cell? ⟨g, off + 2, none⟩ = some (.int .u8 A)) (c3 : w.cell? ⟨g, off + 3, none⟩ = some (.int .u8 B)) :
    Calls Try.prog 12 #[.slice (some ⟨g, off, none⟩) 4 cap] w fun e w' => e = .returned (.tuple #[.agg #[.bool (f / 32 % 2 == 1), .bool (f / 16 % 2 == 1), .int .u8 (f % 8), .bool true, .bool true, .int .u16 ((A - 128) * 256 + B), .bool false, .int .u8 0, .bool false, .int .u8 0, .bool false, .bool false, .int .u8 0], .bool true]) ∧ Below w.heap.size w w' := by
  go_enter Try.func12, Try.ntmps12
  go_wp2
  go_region
  go_wp2
  refine bodyPost_ret (v := .tuple #[.agg #[.bool (f / 32 % 2 == 1), .bool (f / 16 % 2 == 1), .int .u8 (f % 8), .bool true, .bool true, .int .u16 ((A - 128) * 256 + B), .bool false, .int .u8 0, .bool false, .int .u8 0, .bool false, .bool false, .int .u8 0], .bool true]) (by simp [results, Try.results12, go_sem]) rfl ⟨rfl, ?_⟩
  exact (dec_below _ _ _ _ _).drew

set_option maxRecDepth 100000 in
set_option maxHeartbeats 2000000 in
theorem dec_11001 (f A B t : Int) (g off cap : Nat) (w : World) (hg : g < w.heap.size) (f0 : 0 ≤ f) (f1 : f ≤ 255) (g1 : (f / 64 % 2 == 1) = false) (g2 : (f / 8 % 2 == 1) = false) (g3 : 128 ≤ f) (a0 : 128 ≤ A) (a1 : A ≤ 255) (b0 : 0 ≤ B) (b1 : B ≤ 255) (t0 : 0 ≤ t) (t1 : t ≤ 255) (t2 : t < 32) (c0 : w.cell? ⟨g, off, none⟩ = some (.int .u8 f)) (c1 : w.cell? ⟨g, off + 1, none⟩ = some (.int .u8 144)) (c2 : w.cell? ⟨g, off + 2, none⟩ = some (.int .u8 A)) (c3 : w.cell? ⟨g, off + 3, none⟩ = some (.int .u8 B)) (c4 : w.cell? ⟨g, off + 4, none⟩ = some (.int .u8 t)) :
    Calls Try.prog 12 #[.slice (some ⟨g, off, none⟩) 5 cap] w fun e w' => e = .returned (.tuple #[.agg #[.bool (f / 32 % 2 == 1), .bool (f / 16 % 2 == 1), .int .u8 (f % 8), .bool true, .bool true, .int .u16 ((A - 128) * 256 + B), .bool false, .int .u8 0, .bool false, .int .u8 0, .bool false, .bool true, .int .u8 (t % 32)], .bool true]) ∧ Below w.heap.size w w' := by
  go_enter Try.func12, Try.ntmps12
  go_wp2
  go_region
  go_wp2
  refine bodyPost_ret (v := .tuple #[.agg #[.bool (f / 32 % 2 == 1), .bool (f / 16 % 2 == 1), .int .u8 (f % 8), .bool true, .bool true, .int .u16 ((A - 128) * 256 + B), .bool false, .int .u8 0, .bool false, .int .u8 0, .bool false, .bool true, .int .u8 (t % 32)], .bool true]) (by simp [results, Try.results12, go_sem]) rfl ⟨rfl, ?_⟩
  exact (dec_below _ _ _ _ _).drew

set_option maxRecDepth 100000 in
set_option maxHeartbeats 2000000 in
theorem dec_11010 (f A B t : Int) (g off cap : Nat) (w : World) (hg : g < w.heap.size) (f0 : 0 ≤ f) (f1 : f ≤ 255) (g1 : (f / 64 % 2 == 1) = false) (g2 : (f / 8 % 2 == 1) = false) (g3 : 128 ≤ f) (a0 : 128 ≤ A) (a1 : A ≤ 255) (b0 : 0 ≤ B) (b1 : B ≤ 255) (t0 : 0 ≤ t) (t1 : t ≤ 255) (t3 : (t % 32 != 0) = false) (c0 : w.cell? ⟨g, off, none⟩ = some (.int .u8 f)) (c1 : w.cell? ⟨g, off + 1, none⟩ = some (.int .u8 160)) (c2 : w.cell? ⟨g, off + 2, none⟩ = some (.int .u8 A)) (c3 : w.cell? ⟨g, off + 3, none⟩ = some (.int .u8 B)) (c4 : w.cell? ⟨g, off + 4, none⟩ = some (.int .u8 t)) :
    Calls Try.prog 12 #[.slice (some ⟨g, off, none⟩) 5 cap] w fun e w' => e = .returned (.tuple #[.agg #[.bool (f / 32 % 2 == 1), .bool (f / 16 % 2 == 1), .int .u8 (f % 8), .bool true, .bool true, .int .u16 ((A - 128) * 256 + B), .bool false, .int .u8 0, .bool true, .int .u8 (t / 64), .bool (t / 32 % 2 == 1), .bool false, .int .u8 0], .bool true]) ∧ Below w.heap.size w w' := by
  go_enter Try.func12, Try.ntmps12
  go_wp2
  go_region
  go_wp2
  refine bodyPost_ret (v := .tuple #[.agg #[.bool (f / 32 % 2 == 1), .bool (f / 16 % 2 == 1), .int .u8 (f % 8), .bool true, .bool true, .int .u16 ((A - 128) * 256 + B), .bool false, .int .u8 0, .bool true, .int .u8 (t / 64), .bool (t / 32 % 2 == 1), .bool false, .int .u8 0], .bool true]) (by simp [results, Try.results12, go_sem]) rfl ⟨rfl, ?_⟩
  exact (dec_below _ _ _ _ _).drew

set_option maxRecDepth 100000 in
set_option maxHeartbeats 2000000 in
theorem dec_11011 (f A B t : Int) (g off cap : Nat) (w : World) (hg : g < w.heap.size) (f0 : 0 ≤ f) (f1 : f ≤ 255) (g1 : (f / 64 % 2 == 1) = false) (g2 : (f / 8 % 2 == 1) = false) (g3 : 128 ≤ f) (a0 : 128 ≤ A) (a1 : A ≤ 255) (b0 : 0 ≤ B) (b1 : B ≤ 255) (t0 : 0 ≤ t) (t1 : t ≤ 255) (c0 : w.cell? ⟨g, off, none⟩ = some (.int .u8 f)) (c1 : w.cell? ⟨g, off + 1, none⟩ = some (.int .u8 176)) (c2 : w.cell? ⟨g, off + 2, none⟩ = some (.int .u8 A)) (c3 : w.cell? ⟨g, off + 3, none⟩ = some (.int .u8 B)) (c4 : w.cell? ⟨g, off + 4, none⟩ = some (.int .u8 t)) :
    Calls Try.prog 12 #[.slice (some ⟨g, off, none⟩) 5 cap] w fun e w' => e = .returned (.tuple #[.agg #[.bool (f / 32 % 2 == 1), .bool (f / 16 % 2 == 1), .int .u8 (f % 8), .bool true, .bool true, .int .u16 ((A - 128) * 256 + B), .bool false, .int .u8 0, .bool true, .int .u8 (t / 64), .bool (t / 32 % 2 == 1), .bool true, .int .u8 (t % 32)], .bool true]) ∧ Below w.heap.size w w' := by
  go_enter Try.func12, Try.ntmps12
  go_wp2
  go_region
  go_wp2
  refine bodyPost_ret (v := .tuple #[.agg #[.bool (f / 32 % 2 == 1), .bool (f / 16 % 2 == 1), .int .u8 (f % 8), .bool true, .bool true, .int .u16 ((A - 128) * 256 + B), .bool false, .int .u8 0, .bool true, .int .u8 (t / 64), .bool (t / 32 % 2 == 1), .bool true, .int .u8 (t % 32)], .bool true]) (by simp [results, Try.results12, go_sem]) rfl ⟨rfl, ?_⟩
  exact (dec_below _ _ _ _ _).drew

set_option maxRecDepth 100000 in
set_option maxHeartbeats 2000000 in
theorem dec_11100 (f A B T : Int) (g off cap : Nat) (w : World) (hg : g < w.heap.size) (f0 : 0 ≤ f) (f1 : f ≤ 255) (g1 : (f / 64 % 2 == 1) = false) (g2 : (f / 8 % 2 == 1) = false) (g3 : 128 ≤ f) (a0 : 128 ≤ A) (a1 : A ≤ 255) (b0 : 0 ≤ B) (b1 : B ≤ 255) (c0 : w.cell? ⟨g, off, none⟩ = some (.int .u8 f)) (c1 : w.cell? ⟨g, off + 1, none⟩ = some (.int .u8 192)) (c2 : w.cell? ⟨g, off + 2, none⟩ = some (.int .u8 A)) (c3 : w.cell? ⟨g, off + 3, none⟩ = some (.int .u8 B)) (c4 : w.cell? ⟨g, off + 4, none⟩ = some (.int .u8 T)) :
    Calls Try.prog 12 #[.slice (some ⟨g, off, none⟩) 5 cap] w fun e w' => e = .returned (.tuple #[.agg #[.bool (f / 32 % 2 == 1), .bool (f / 16 % 2 == 1), .int .u8 (f % 8), .bool true, .bool true, .int .u16 ((A - 128) * 256 + B), .bool true, .int .u8 T, .bool false, .int .u8 0, .bool false, .bool false, .int .u8 0], .bool true]) ∧ Below w.heap.size w w' := by
  go_enter Try.func12, Try.ntmps12
  go_wp2
  go_region
  go_wp2
  refine bodyPost_ret (v := .tuple #[.agg #[.bool (f / 32 % 2 == 1), .bool (f / 16 % 2 == 1), .int .u8 (f % 8), .bool true, .bool true, .int .u16 ((A - 128) * 256 + B), .bool true, .int .u8 T, .bool false, .int .u8 0, .bool false, .bool false, .int .u8 0], .bool true]) (by simp [results, Try.results12, go_sem]) rfl ⟨rfl, ?_⟩
  exact (dec_below _ _ _ _ _).drew

set_option maxRecDepth 100000 in
set_option maxHeartbeats 2000000 in
theorem dec_11101 (f A B T t : Int) (g off cap : Nat) (w : World) (hg : g < w.heap.size) (f0 : 0 ≤ f) (f1 : f ≤ 255) (g1 : (f / 64 % 2 == 1) = false) (g2 : (f / 8 % 2 == 1) = false) (g3 : 128 ≤ f) (a0 : 128 ≤ A) (a1 : A ≤ 255) (b0 : 0 ≤ B) (b1 : B ≤ 255) (t0 : 0 ≤ t) (t1 : t ≤ 255) (t2 : t < 32) (c0 : w.cell? ⟨g, off, none⟩ = some (.int .u8 f)) (c1 : w.cell? ⟨g, off + 1, none⟩ = some (.int .u8 208)) (c2 : w.cell? ⟨g, off + 2, none⟩ = some (.int .u8 A)) (c3 : w.cell? ⟨g, off + 3, none⟩ = some (.int .u8 B)) (c4 : w.cell? ⟨g, off + 4, none⟩ = some (.int .u8 T)) (c5 : w.cell? ⟨g, off + 5, none⟩ = some (.int .u8 t)) :
    Calls Try.prog 12 #[.slice (some ⟨g, off, none⟩) 6 cap] w fun e w' => e = .returned (.tuple #[.agg #[.bool (f / 32 % 2 == 1), .bool (f / 16 % 2 == 1), .int .u8 (f % 8), .bool true, .bool true, .int .u16 ((A - 128) * 256 + B), .bool true, .int .u8 T, .bool false, .int .u8 0, .bool false, .bool true, .int .u8 (t % 32)], .bool true]) ∧ Below w.heap.size w w' := by
  go_enter Try.func12, Try.ntmps12
  go_wp2
  go_region
  go_wp2
  refine bodyPost_ret (v := .tuple #[.agg #[.bool (f / 32 % 2 == 1), .bool (f / 16 % 2 == 1), .int .u8 (f % 8), .bool true, .bool true, .int .u16 ((A - 128) * 256 + B), .bool true, .int .u8 T, .bool false, .int .u8 0, .bool false, .bool true, .int .u8 (t % 32)], .bool true]) (by simp [results, Try.results12, go_sem]) rfl ⟨rfl, ?_⟩
  exact (dec_below _ _ _ _ _).drew

set_option maxRecDepth 100000 in
set_option maxHeartbeats 2000000 in
theorem dec_11110 (f A B T t : Int) (g off cap : Nat) (w : World) (hg : g < w.heap.size) (f0 : 0 ≤ f) (f1 : f ≤ 255) (g1 : (f / 64 % 2 == 1) = false) (g2 : (f / 8 % 2 == 1) = false) (g3 : 128 ≤ f) (a0 : 128 ≤ A) (a1 : A ≤ 255) (b0 : 0 ≤ B) (b1 : B ≤ 255) (t0 : 0 ≤ t) (t1 : t ≤ 255) (t3 : (t % 32 != 0) = false) (c0 : w.cell? ⟨g, off, none⟩ = some (.int .u8 f)) (c1 : w.cell? ⟨g, off + 1, none⟩ = some (.int .u8 224)) (c2 : w.cell? ⟨g, off + 2, none⟩ = some (.int .u8 A)) (c3 : w.cell? ⟨g, off + 3, none⟩ = some (.int .u8 B)) (c4 : w.cell? ⟨g, off + 4, none⟩ = some (.int .u8 T)) (c5 : w.cell? ⟨g, off + 5, none⟩ = some (.int .u8 t)) :
    Calls Try.prog 12 #[.slice (some ⟨g, off, none⟩) 6 cap] w fun e w' => e = .returned (.tuple #[.agg #[.bool (f / 32 % 2 == 1), .bool (f / 16 % 2 == 1), .int .u8 (f % 8), .bool true, .bool true, .int .u16 ((A - 128) * 256 + B), .bool true, .int .u8 T, .bool true, .int .u8 (t / 64), .bool (t / 32 % 2 == 1), .bool false, .int .u8 0], .bool true]) ∧ Below w.heap.size w w' := by
  go_enter Try.func12, Try.ntmps12
  go_wp2
  go_region
  go_wp2
  refine bodyPost_ret (v := .tuple #[.agg #[.bool (f / 32 % 2 == 1), .bool (f / 16 % 2 == 1), .int .u8 (f % 8), .bool true, .bool true, .int .u16 ((A - 128) * 256 + B), .bool true, .int .u8 T, .bool true, .int .u8 (t / 64), .bool (t / 32 % 2 == 1), .bool false, .int .u8 0], .bool true]) (by simp [results, Try.results12, go_sem]) rfl ⟨rfl, ?_⟩
  exact (dec_below _ _ _ _ _).drew

set_option maxRecDepth 100000 in
set_option maxHeartbeats 2000000 in
theorem dec_11111 (f A B T t : Int) (g off cap : Nat) (w : World) (hg : g < w.heap.size) (f0 : 0 ≤ f) (f1 : f ≤ 255) (g1 : (f / 64 % 2 == 1) = false) (g2 : (f / 8 % 2 == 1) = false) (g3 : 128 ≤ f) (a0 : 128 ≤ A) (a1 : A ≤ 255) (b0 : 0 ≤ B) (b1 : B ≤ 255) (t0 : 0 ≤ t) (t1 : t ≤ 255) (c0 : w.cell? ⟨g, off, none⟩ = some (.int .u8 f)) (c1 : w.cell? ⟨g, off + 1, none⟩ = some (.int .u8 240)) (c2 : w.cell? ⟨g, off + 2, none⟩ = some (.int .u8 A)) (c3 : w.cell? ⟨g, off + 3, none⟩ = some (.int .u8 B)) (c4 : w.cell? ⟨g, off + 4, none⟩ = some (.int .u8 T)) (c5 : w.cell? ⟨g, off + 5, none⟩ = some (.int .u8 t)) :
    Calls Try.prog 12 #[.slice (some ⟨g, off, none⟩) 6 cap] w fun e w' => e = .returned (.tuple #[.agg #[.bool (f / 32 % 2 == 1), .bool (f / 16 % 2 == 1), .int .u8 (f % 8), .bool true, .bool true, .int .u16 ((A - 128) * 256 + B), .bool true, .int .u8 T, .bool true, .int .u8 (t / 64), .bool (t / 32 % 2 == 1), .bool true, .int .u8 (t % 32)], .bool true]) ∧ Below w.heap.size w w' := by
  go_enter Try.func12, Try.ntmps12
  go_wp2
  go_region
  go_wp2
  refine bodyPost_ret (v := .tuple #[.agg #[.bool (f / 32 % 2 == 1), .bool (f / 16 % 2 == 1), .int .u8 (f % 8), .bool true, .bool true, .int .u16 ((A - 128) * 256 + B), .bool true, .int .u8 T, .bool true, .int .u8 (t / 64), .bool (t / 32 % 2 == 1), .bool true, .int .u8 (t % 32)], .bool true]) (by simp [results, Try.results12, go_sem]) rfl ⟨rfl, ?_⟩
  exact (dec_below _ _ _ _ _).drew

end Go.Proofs.Qxb6600572a
