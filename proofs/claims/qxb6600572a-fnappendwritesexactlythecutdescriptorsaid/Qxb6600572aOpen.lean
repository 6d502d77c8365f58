import Derived.Test.Qxb6600572aRows
import Derived.WalkKit
import Derived.ProofKit
import Derived.OpenShut
import Derived.ShutString
import Derived.ChangeOld
import Derived.Below
namespace Go.Proofs.Qxb6600572a
open Go.ChangeShapes Go.WideShapes Go.ChangeAt Go.RowKit

theorem cells4 : Try.prog.cellsOf 4 = 1 := by kernel_rfl
theorem cells5 : Try.prog.cellsOf 5 = 1 := by kernel_rfl
theorem cells22 : Try.prog.cellsOf 22 = 1 := by kernel_rfl
theorem cells24 : Try.prog.cellsOf 24 = 13 := by kernel_rfl
theorem ownK : ownKnob Try.prog.godebug = none := by kernel_rfl
theorem laidOut : laidOutB Try.prog = true := by kernel_rfl

theorem array13 {cs : Array Value} (h : cs.size = 13) : ∃ c0 c1 c2 c3 c4 c5 c6 c7 c8 c9 c10 c11 c12, cs = #[c0, c1, c2, c3, c4, c5, c6, c7, c8, c9, c10, c11, c12] := by
  obtain ⟨l⟩ := cs
  match l, h with
  | [c0, c1, c2, c3, c4, c5, c6, c7, c8, c9, c10, c11, c12], _ => exact ⟨c0, c1, c2, c3, c4, c5, c6, c7, c8, c9, c10, c11, c12, rfl⟩

/-- A descriptor that came in by value, written out: eight flags, five numbers within their kinds. -/
theorem open_desc {H : Type} {enc : TypeId × Value → H} {w : World} {base : Nat} {spare : Nat → Bool} {held : Bool} {r : Reach} {b0 : Nat} {v : Value} {d : DataW H} {p : List MemPlace}
    (hv : Value.okWide Try.prog w r b0 24 v) (h : DataW.Trod enc Try.prog w base spare held 24 v d p) :
    ∃ (nr st hp lp ht hT ls hk : Bool) (pt pid tl tid ky : Int), v = .agg #[.bool nr, .bool st, .int .u8 pt, .bool hp, .bool lp, .int .u16 pid, .bool ht, .int .u8 tl, .bool hT, .int .u8 tid, .bool ls, .bool hk, .int .u8 ky] ∧ (0 ≤ pt ∧ pt ≤ 255) ∧ (0 ≤ pid ∧ pid ≤ 65535) ∧ (0 ≤ tl ∧ tl ≤ 255) ∧ (0 ≤ tid ∧ tid ≤ 255) ∧ (0 ≤ ky ∧ ky ≤ 255) := by
  obtain ⟨cs, rfl, hsz⟩ := okWide_struct Try.underlying24 hv
  obtain ⟨c0, c1, c2, c3, c4, c5, c6, c7, c8, c9, c10, c11, c12, rfl⟩ := array13 (hsz.trans cells24)
  obtain ⟨fuel, hfu⟩ := h
  obtain ⟨xs, n, _, _, _, hlen, hf⟩ := DataW.trod_struct Try.underlying24 hfu
  simp at hlen
  obtain ⟨y0, hy0⟩ : ∃ y, xs[0]? = some y := ⟨xs[0]'(by omega), List.getElem?_eq_getElem _⟩
  have h0 := hf 0 _ rfl
  rw [hy0] at h0
  obtain ⟨nr, e0, _⟩ := DataW.trod_bool Try.underlying4 h0
  obtain rfl : c0 = .bool nr := by simpa [Value.cells, cells4] using e0
  obtain ⟨y1, hy1⟩ : ∃ y, xs[1]? = some y := ⟨xs[1]'(by omega), List.getElem?_eq_getElem _⟩
  have h1 := hf 1 _ rfl
  rw [hy1] at h1
  obtain ⟨st, e1, _⟩ := DataW.trod_bool Try.underlying4 h1
  obtain rfl : c1 = .bool st := by simpa [Value.cells, cells4] using e1
  obtain ⟨y2, hy2⟩ : ∃ y, xs[2]? = some y := ⟨xs[2]'(by omega), List.getElem?_eq_getElem _⟩
  have h2 := hf 2 _ rfl
  rw [hy2] at h2
  obtain ⟨pt, e2, _, b2⟩ := DataW.trod_int Try.underlying5 h2
  obtain rfl : c2 = .int .u8 pt := by simpa [Value.cells, cells5] using e2
  obtain ⟨y3, hy3⟩ : ∃ y, xs[3]? = some y := ⟨xs[3]'(by omega), List.getElem?_eq_getElem _⟩
  have h3 := hf 3 _ rfl
  rw [hy3] at h3
  obtain ⟨hp, e3, _⟩ := DataW.trod_bool Try.underlying4 h3
  obtain rfl : c3 = .bool hp := by simpa [Value.cells, cells4] using e3
  obtain ⟨y4, hy4⟩ : ∃ y, xs[4]? = some y := ⟨xs[4]'(by omega), List.getElem?_eq_getElem _⟩
  have h4 := hf 4 _ rfl
  rw [hy4] at h4
  obtain ⟨lp, e4, _⟩ := DataW.trod_bool Try.underlying4 h4
  obtain rfl : c4 = .bool lp := by simpa [Value.cells, cells4] using e4
  obtain ⟨y5, hy5⟩ : ∃ y, xs[5]? = some y := ⟨xs[5]'(by omega), List.getElem?_eq_getElem _⟩
  have h5 := hf 5 _ rfl
  rw [hy5] at h5
  obtain ⟨pid, e5, _, b5⟩ := DataW.trod_int Try.underlying22 h5
  obtain rfl : c5 = .int .u16 pid := by simpa [Value.cells, cells22] using e5
  obtain ⟨y6, hy6⟩ : ∃ y, xs[6]? = some y := ⟨xs[6]'(by omega), List.getElem?_eq_getElem _⟩
  have h6 := hf 6 _ rfl
  rw [hy6] at h6
  obtain ⟨ht, e6, _⟩ := DataW.trod_bool Try.underlying4 h6
  obtain rfl : c6 = .bool ht := by simpa [Value.cells, cells4] using e6
  obtain ⟨y7, hy7⟩ : ∃ y, xs[7]? = some y := ⟨xs[7]'(by omega), List.getElem?_eq_getElem _⟩
  have h7 := hf 7 _ rfl
  rw [hy7] at h7
  obtain ⟨tl, e7, _, b7⟩ := DataW.trod_int Try.underlying5 h7
  obtain rfl : c7 = .int .u8 tl := by simpa [Value.cells, cells5] using e7
  obtain ⟨y8, hy8⟩ : ∃ y, xs[8]? = some y := ⟨xs[8]'(by omega), List.getElem?_eq_getElem _⟩
  have h8 := hf 8 _ rfl
  rw [hy8] at h8
  obtain ⟨hT, e8, _⟩ := DataW.trod_bool Try.underlying4 h8
  obtain rfl : c8 = .bool hT := by simpa [Value.cells, cells4] using e8
  obtain ⟨y9, hy9⟩ : ∃ y, xs[9]? = some y := ⟨xs[9]'(by omega), List.getElem?_eq_getElem _⟩
  have h9 := hf 9 _ rfl
  rw [hy9] at h9
  obtain ⟨tid, e9, _, b9⟩ := DataW.trod_int Try.underlying5 h9
  obtain rfl : c9 = .int .u8 tid := by simpa [Value.cells, cells5] using e9
  obtain ⟨y10, hy10⟩ : ∃ y, xs[10]? = some y := ⟨xs[10]'(by omega), List.getElem?_eq_getElem _⟩
  have h10 := hf 10 _ rfl
  rw [hy10] at h10
  obtain ⟨ls, e10, _⟩ := DataW.trod_bool Try.underlying4 h10
  obtain rfl : c10 = .bool ls := by simpa [Value.cells, cells4] using e10
  obtain ⟨y11, hy11⟩ : ∃ y, xs[11]? = some y := ⟨xs[11]'(by omega), List.getElem?_eq_getElem _⟩
  have h11 := hf 11 _ rfl
  rw [hy11] at h11
  obtain ⟨hk, e11, _⟩ := DataW.trod_bool Try.underlying4 h11
  obtain rfl : c11 = .bool hk := by simpa [Value.cells, cells4] using e11
  obtain ⟨y12, hy12⟩ : ∃ y, xs[12]? = some y := ⟨xs[12]'(by omega), List.getElem?_eq_getElem _⟩
  have h12 := hf 12 _ rfl
  rw [hy12] at h12
  obtain ⟨ky, e12, _, b12⟩ := DataW.trod_int Try.underlying5 h12
  obtain rfl : c12 = .int .u8 ky := by simpa [Value.cells, cells5] using e12
  exact ⟨nr, st, hp, lp, ht, hT, ls, hk, pt, pid, tl, tid, ky, rfl, bounds_u8 b2, bounds_u16 b5, bounds_u8 b7, bounds_u8 b9, bounds_u8 b12⟩
end Go.Proofs.Qxb6600572a
