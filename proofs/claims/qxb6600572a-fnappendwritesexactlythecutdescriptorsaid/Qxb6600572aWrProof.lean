/-
  'Rows.FnAppendWritesExactlyTheCutDescriptorSaid', PROVED. The frame is typed after the guide's shell for slices: a struct by value, opened by 'open_desc', and a slice of bytes; both read again by 'Below.trod'.
-/
import Derived.Test.Qxb6600572aOpen
import Derived.Test.Qxb6600572aWr
namespace Go.Proofs.Qxb6600572a.fnAppendWritesExactlyTheCutDescriptor
open Go.ChangeShapes Go.WideShapes Go.ChangeAt Go.RowKit
set_option linter.unusedVariables false

/-- What the walk is told of a slice of bytes that came in: it is nil; or it leads to a row of 'cap' cells, the numbers 'zs'. -/
def IsRow (w : World) (a : Option Addr) (len cap : Nat) (zs : List Int) : Prop :=
  (a = none ∧ len = 0 ∧ cap = 0 ∧ zs = []) ∨
  ∃ x, a = some x ∧ len ≤ cap ∧ cap ≤ maxLen ∧ zs.length = cap ∧ (∀ i, i < zs.length → w.cell? (x.add i) = some (.int .u8 (zs.getD i 0)))

theorem walk (nr st hp lp ht hT ls hk : Bool) (pt pid tl tid ky : Int) (d0a : 0 ≤ pt) (d0b : pt ≤ 255) (d1a : 0 ≤ pid) (d1b : pid ≤ 65535) (d2a : 0 ≤ tid) (d2b : tid ≤ 255) (d3a : 0 ≤ ky) (d3b : ky ≤ 255) (a : Option Addr) (len cap : Nat) (zs : List Int) (w : World) (h : IsRow w a len cap zs) :
    Calls Try.prog 3 #[.agg #[.bool nr, .bool st, .int .u8 pt, .bool hp, .bool lp, .int .u16 pid, .bool ht, .int .u8 tl, .bool hT, .int .u8 tid, .bool ls, .bool hk, .int .u8 ky], .slice a len cap] w fun e w' => e = .returned (.bool true) ∧ Below w.heap.size w w' := by
  rcases h with ⟨rfl, rfl, rfl, rfl⟩ | ⟨x, rfl, hlc, hm, hz, hcell⟩
  · exact wr_nil nr st hp lp ht hT ls hk pt pid tl tid ky d0a d0b d1a d1b d2a d2b d3a d3b w
  by_cases hb : len ≤ 1048576
  · by_cases h0 : len = 0
    · subst h0
      exact wr_empty nr st hp lp ht hT ls hk pt pid tl tid ky d0a d0b d1a d1b d2a d2b d3a d3b x cap w
    · obtain ⟨b, off, spot⟩ := x
      have hc0 := hcell 0 (by omega)
      have hspot : spot = none := by simpa [Addr.add] using World.cell?_spot hc0
      subst hspot
      have hbl : b < w.heap.size := World.block_lt_of_cell? w _ hc0
      have hlen : (zs.take len).length = len := by rw [List.length_take]; omega
      have hw := wr_some nr st hp lp ht hT ls hk pt pid tl tid ky d0a d0b d1a d1b d2a d2b d3a d3b b off cap (zs.take len) w (by omega) (by omega) hbl (fun j hj => by
        have hj' : j < len := by omega
        have := hcell j (by omega)
        rw [Addr.add_lit] at this
        rw [this]
        congr 2
        simp [List.getD, hj'])
      rw [hlen] at hw
      exact hw
  · exact wr_big nr st hp lp ht hT ls hk pt pid tl tid ky (some x) len cap (by omega) w hb

set_option maxRecDepth 100000 in
theorem lifted (os : Os) (started : os.Started) (H : Type) (enc : TypeId × Value → H) :
    ReturnsInHanded {} Try.checked os 3 .any (Rows.fnAppendWritesExactlyTheCutDescriptorSpec.pre6 enc Try.prog Try.f3 Rows.fnAppendWritesExactlyTheCutDescriptorRow.domain false) (Rows.fnAppendWritesExactlyTheCutDescriptorSpec.post enc Try.prog Try.f3 false true false false) := by
  refine returnsInHanded_of_change (C := Try.checked) ownK started (by kernel_rfl) Try.func3
    (ChangeSpec.witness6 (enc := enc) (C := Try.checked) false ⟨#[], #[.agg #[.bool false, .bool false, .int .u8 0, .bool false, .bool false, .int .u16 0, .bool false, .int .u8 0, .bool false, .int .u8 0, .bool false, .bool false, .int .u8 0], .slice none 0 0], []⟩ 8 (by kernel_rfl) (by kernel_rfl) (by kernel_rfl) (by kernel_rfl)) ?_
  intro W base args ds gs before hval0 hW hcnd _
  have hval : ∀ (j : Nat) t v, Try.f3.params[j]? = some t → args[j]? = some v → Value.okWide Try.prog W .any base t v := hval0
  have hW' := hW
  obtain ⟨p, q, hA0, hV, rfl, hfz, hnd⟩ := hW
  have hA : DataW.TrodAll enc Try.prog W 0 (fun _ => true) true Try.f3.params.toList args.toList ds p := hA0
  rw [Try.params3] at hA hval
  obtain ⟨v0, vs0, d0, ds0, p0, q0, hargs, rfl, rfl, h0, r0⟩ := trodAll_cons hA
  obtain ⟨v1, vs1, d1, ds1, p1, q1, rfl, rfl, rfl, h1, r1⟩ := trodAll_cons r0
  obtain ⟨rfl, rfl, rfl⟩ := trodAll_nil r1
  obtain rfl : args = #[v0, v1] := by cases args; simp_all
  obtain ⟨rfl, rfl⟩ := trodVars_none hV
  have lt0 : ∀ x ∈ p0, x.block < W.heap.size := by obtain ⟨m, hm⟩ := h0; exact DataW.trod_lt m _ _ _ hm
  have lt1 : ∀ x ∈ p1, x.block < W.heap.size := by obtain ⟨m, hm⟩ := h1; exact DataW.trod_lt m _ _ _ hm
  obtain ⟨nr, st, hp, lp, ht, hT, ls, hk, pt, pid, tl, tid, ky, rfl, ⟨d0a, d0b⟩, ⟨d1a, d1b⟩, _, ⟨d2a, d2b⟩, ⟨d3a, d3b⟩⟩ := open_desc (hval 0 24 v0 rfl rfl) h0
  obtain ⟨a1, len1, cap1, rfl⟩ := okWide_slice Try.underlying25 (hval 1 25 v1 rfl rfl)
  obtain ⟨z1, w1⟩ : ∃ zs, IsRow W a1 len1 cap1 zs := by
    obtain ⟨fuel, hf⟩ := h1
    rcases open_ints Try.underlying25 Try.underlying5 cells5 hf with ⟨hcs, _⟩ | ⟨x, l, c, zs, hcs, _, hl, hm, hz, _, hcell, hwz⟩
    · simp [Value.cells] at hcs
      obtain ⟨rfl, rfl, rfl⟩ := hcs
      exact ⟨[], .inl ⟨rfl, rfl, rfl, rfl⟩⟩
    · simp [Value.cells] at hcs
      obtain ⟨rfl, rfl, rfl⟩ := hcs
      exact ⟨zs, .inr ⟨_, rfl, hl, hm, by simpa using hz, hcell⟩⟩
  clear hA0 hval0
  refine (walk nr st hp lp ht hT ls hk pt pid tl tid ky d0a d0b d1a d1b d2a d2b d3a d3b a1 len1 cap1 z1 W w1).mono fun e W' ⟨he, bel⟩ => ?_
  subst he
  exact ⟨_, rfl, _, _, _, [], _, [], hW', trodAll_mk1 (shut_bool Try.underlying4 _), (trodAll_cons_mk (Below.trod laidOut (by kernel_rfl) (of_decide_eq_true (by kernel_rfl)) h0 bel lt0) (trodAll_cons_mk (Below.trod laidOut (by kernel_rfl) (of_decide_eq_true (by kernel_rfl)) h1 bel lt1) trodAll_mk0)), rfl, bel.frame _, fun h => by cases h⟩

theorem over : Rows.fnAppendWritesExactlyTheCutDescriptorRow.holds Try.pinned (OpenSpec.ofChange Rows.fnAppendWritesExactlyTheCutDescriptorSpec) :=
  OpenClaim.holds_of_wide 3 Try.f3 rfl rfl rfl rfl rfl rfl rfl ⟨rfl, rfl, rfl, rfl, rfl⟩ rfl rfl rfl rfl rfl (by kernel_rfl) Try.func3 (by kernel_rfl)
    (of_decide_eq_true (by kernel_rfl)) (by unfold Func.isWrapper; first | (rw [if_pos (by decide +kernel)]; kernel_rfl) | (rw [if_neg (by decide +kernel)]; exact ⟨rfl, rfl⟩))
    (fun os started H enc _ => lifted os started H enc)

/-- ████ THE STATEMENT ████ -/
theorem proved : Rows.FnAppendWritesExactlyTheCutDescriptorSaid :=
  over
end Go.Proofs.Qxb6600572a.fnAppendWritesExactlyTheCutDescriptor
