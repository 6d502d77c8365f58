import Derived.Test.Qxb6600572aRead2
import Derived.Test.Qxb6600572aCut
namespace Go.Proofs.Qxb6600572a
open Go.RowKit

/-- The slice v reads as the bytes L, from some place of its row on. -/
def RowO (w : World) (v : Value) (L : List Int) : Prop :=
  ∃ g off cap, v = .slice (some ⟨g, off, none⟩) L.length cap ∧ g < w.heap.size ∧ ∀ j, j < L.length → w.cell? ⟨g, off + j, none⟩ = some (.int .u8 (L.getD j 0))

theorem f_facts (nr st : Bool) (pt f : Int) (h : f = fst2 nr st pt ∨ f = fst2 nr st pt + 128) :
    0 ≤ f ∧ f ≤ 255 ∧ (f / 64 % 2 == 1) = false ∧ (f / 8 % 2 == 1) = false ∧ (f / 32 % 2 == 1) = nr ∧ (f / 16 % 2 == 1) = st ∧ f % 8 = pt % 8 := by
  cases nr <;> cases st <;> simp only [fst2, fst1, Bool.false_eq_true, if_false, if_true] at h <;>
    (refine ⟨by omega, by omega, ?_, ?_, ?_, ?_, by omega⟩ <;> first | exact beq_eq_false_iff_ne.2 (by omega) | exact beq_iff_eq.2 (by omega))

theorem t_facts (hT ls hk : Bool) (tid ky t : Int) (h : t = tb hT tid ls hk ky) :
    0 ≤ t ∧ t ≤ 255 ∧ (hT = true → t / 64 = tid % 4 ∧ (t / 32 % 2 == 1) = ls) ∧ (hT = false → t < 32) ∧ (hk = true → t % 32 = ky % 32) ∧ (hk = false → (t % 32 != 0) = false) := by
  cases hT <;> cases ls <;> cases hk <;> simp only [tb, Bool.false_eq_true, if_false, if_true] at h <;>
    (refine ⟨by omega, by omega, fun h1 => ?_, fun h1 => ?_, fun h1 => ?_, fun h1 => ?_⟩ <;> first | (exact absurd h1 (by decide)) | (refine ⟨by omega, ?_⟩; first | exact beq_eq_false_iff_ne.2 (by omega) | exact beq_iff_eq.2 (by omega)) | omega | (rw [bne_eq_false_iff_eq]; omega))

set_option maxRecDepth 100000 in
/-- What Append writes reads back as the descriptor cut to its widths. -/
theorem read_calls (nr st hp lp ht hT ls hk : Bool) (pt pid tl tid ky : Int) (v : Value) (w : World) (h : RowO w v (bytesOf nr st pt hp lp pid ht tl hT tid ls hk ky)) (_p0 : 0 ≤ pt) (_q0 : 0 ≤ pid) (_q1 : pid ≤ 65535) :
    Calls Try.prog 12 #[v] w fun e w' => e = .returned (.tuple #[.agg #[.bool nr, .bool st, .int .u8 (pt % 8), .bool hp, .bool (hp && lp), .int .u16 (cPid hp lp pid), .bool ht, .int .u8 (cTl ht tl), .bool hT, .int .u8 (cTid hT tid), .bool (hT && ls), .bool hk, .int .u8 (cKy hk ky)], .bool true]) ∧ Below w.heap.size w w' := by
  obtain ⟨g, off, cap, rfl, hg, hc⟩ := h
  obtain ⟨t0, t1, ta, tbb, tc, td⟩ := t_facts hT ls hk tid ky _ rfl
  cases hp <;> cases lp <;> cases ht <;> cases hT <;> cases hk
  · obtain ⟨f0, f1, g1, g2, g3, g4, g5⟩ := f_facts nr st pt (fst2 nr st pt) (.inl rfl)
    refine (dec_00000 (fst2 nr st pt) g off cap w hg f0 f1 g1 g2 (by have := fst2_bd nr st pt; omega) (hc 0 (by show 0 < 1; omega))).mono ?_
    rintro e w' ⟨rfl, hb⟩
    refine ⟨?_, hb⟩
    rw [g3, g4, g5]
    rfl
  · obtain ⟨f0, f1, g1, g2, g3, g4, g5⟩ := f_facts nr st pt (fst2 nr st pt + 128) (.inr rfl)
    refine (dec_00001 (fst2 nr st pt + 128) (tb false tid ls true ky) g off cap w hg f0 f1 g1 g2 (by have := fst2_bd nr st pt; omega) t0 t1 (tbb rfl) (hc 0 (by show 0 < 3; omega)) (hc 1 (by show 1 < 3; omega)) (hc 2 (by show 2 < 3; omega))).mono ?_
    rintro e w' ⟨rfl, hb⟩
    refine ⟨?_, hb⟩
    rw [g3, g4, g5, tc rfl]
    rfl
  · obtain ⟨f0, f1, g1, g2, g3, g4, g5⟩ := f_facts nr st pt (fst2 nr st pt + 128) (.inr rfl)
    refine (dec_00010 (fst2 nr st pt + 128) (tb true tid ls false ky) g off cap w hg f0 f1 g1 g2 (by have := fst2_bd nr st pt; omega) t0 t1 (td rfl) (hc 0 (by show 0 < 3; omega)) (hc 1 (by show 1 < 3; omega)) (hc 2 (by show 2 < 3; omega))).mono ?_
    rintro e w' ⟨rfl, hb⟩
    refine ⟨?_, hb⟩
    rw [g3, g4, g5, (ta rfl).1, (ta rfl).2]
    rfl
  · obtain ⟨f0, f1, g1, g2, g3, g4, g5⟩ := f_facts nr st pt (fst2 nr st pt + 128) (.inr rfl)
    refine (dec_00011 (fst2 nr st pt + 128) (tb true tid ls true ky) g off cap w hg f0 f1 g1 g2 (by have := fst2_bd nr st pt; omega) t0 t1 (hc 0 (by show 0 < 3; omega)) (hc 1 (by show 1 < 3; omega)) (hc 2 (by show 2 < 3; omega))).mono ?_
    rintro e w' ⟨rfl, hb⟩
    refine ⟨?_, hb⟩
    rw [g3, g4, g5, (ta rfl).1, (ta rfl).2, tc rfl]
    rfl
  · obtain ⟨f0, f1, g1, g2, g3, g4, g5⟩ := f_facts nr st pt (fst2 nr st pt + 128) (.inr rfl)
    refine (dec_00100 (fst2 nr st pt + 128) tl g off cap w hg f0 f1 g1 g2 (by have := fst2_bd nr st pt; omega) (hc 0 (by show 0 < 3; omega)) (hc 1 (by show 1 < 3; omega)) (hc 2 (by show 2 < 3; omega))).mono ?_
    rintro e w' ⟨rfl, hb⟩
    refine ⟨?_, hb⟩
    rw [g3, g4, g5]
    rfl
  · obtain ⟨f0, f1, g1, g2, g3, g4, g5⟩ := f_facts nr st pt (fst2 nr st pt + 128) (.inr rfl)
    refine (dec_00101 (fst2 nr st pt + 128) tl (tb false tid ls true ky) g off cap w hg f0 f1 g1 g2 (by have := fst2_bd nr st pt; omega) t0 t1 (tbb rfl) (hc 0 (by show 0 < 4; omega)) (hc 1 (by show 1 < 4; omega)) (hc 2 (by show 2 < 4; omega)) (hc 3 (by show 3 < 4; omega))).mono ?_
    rintro e w' ⟨rfl, hb⟩
    refine ⟨?_, hb⟩
    rw [g3, g4, g5, tc rfl]
    rfl
  · obtain ⟨f0, f1, g1, g2, g3, g4, g5⟩ := f_facts nr st pt (fst2 nr st pt + 128) (.inr rfl)
    refine (dec_00110 (fst2 nr st pt + 128) tl (tb true tid ls false ky) g off cap w hg f0 f1 g1 g2 (by have := fst2_bd nr st pt; omega) t0 t1 (td rfl) (hc 0 (by show 0 < 4; omega)) (hc 1 (by show 1 < 4; omega)) (hc 2 (by show 2 < 4; omega)) (hc 3 (by show 3 < 4; omega))).mono ?_
    rintro e w' ⟨rfl, hb⟩
    refine ⟨?_, hb⟩
    rw [g3, g4, g5, (ta rfl).1, (ta rfl).2]
    rfl
  · obtain ⟨f0, f1, g1, g2, g3, g4, g5⟩ := f_facts nr st pt (fst2 nr st pt + 128) (.inr rfl)
    refine (dec_00111 (fst2 nr st pt + 128) tl (tb true tid ls true ky) g off cap w hg f0 f1 g1 g2 (by have := fst2_bd nr st pt; omega) t0 t1 (hc 0 (by show 0 < 4; omega)) (hc 1 (by show 1 < 4; omega)) (hc 2 (by show 2 < 4; omega)) (hc 3 (by show 3 < 4; omega))).mono ?_
    rintro e w' ⟨rfl, hb⟩
    refine ⟨?_, hb⟩
    rw [g3, g4, g5, (ta rfl).1, (ta rfl).2, tc rfl]
    rfl
  · obtain ⟨f0, f1, g1, g2, g3, g4, g5⟩ := f_facts nr st pt (fst2 nr st pt) (.inl rfl)
    refine (dec_00000 (fst2 nr st pt) g off cap w hg f0 f1 g1 g2 (by have := fst2_bd nr st pt; omega) (hc 0 (by show 0 < 1; omega))).mono ?_
    rintro e w' ⟨rfl, hb⟩
    refine ⟨?_, hb⟩
    rw [g3, g4, g5]
    rfl
  · obtain ⟨f0, f1, g1, g2, g3, g4, g5⟩ := f_facts nr st pt (fst2 nr st pt + 128) (.inr rfl)
    refine (dec_00001 (fst2 nr st pt + 128) (tb false tid ls true ky) g off cap w hg f0 f1 g1 g2 (by have := fst2_bd nr st pt; omega) t0 t1 (tbb rfl) (hc 0 (by show 0 < 3; omega)) (hc 1 (by show 1 < 3; omega)) (hc 2 (by show 2 < 3; omega))).mono ?_
    rintro e w' ⟨rfl, hb⟩
    refine ⟨?_, hb⟩
    rw [g3, g4, g5, tc rfl]
    rfl
  · obtain ⟨f0, f1, g1, g2, g3, g4, g5⟩ := f_facts nr st pt (fst2 nr st pt + 128) (.inr rfl)
    refine (dec_00010 (fst2 nr st pt + 128) (tb true tid ls false ky) g off cap w hg f0 f1 g1 g2 (by have := fst2_bd nr st pt; omega) t0 t1 (td rfl) (hc 0 (by show 0 < 3; omega)) (hc 1 (by show 1 < 3; omega)) (hc 2 (by show 2 < 3; omega))).mono ?_
    rintro e w' ⟨rfl, hb⟩
    refine ⟨?_, hb⟩
    rw [g3, g4, g5, (ta rfl).1, (ta rfl).2]
    rfl
  · obtain ⟨f0, f1, g1, g2, g3, g4, g5⟩ := f_facts nr st pt (fst2 nr st pt + 128) (.inr rfl)
    refine (dec_00011 (fst2 nr st pt + 128) (tb true tid ls true ky) g off cap w hg f0 f1 g1 g2 (by have := fst2_bd nr st pt; omega) t0 t1 (hc 0 (by show 0 < 3; omega)) (hc 1 (by show 1 < 3; omega)) (hc 2 (by show 2 < 3; omega))).mono ?_
    rintro e w' ⟨rfl, hb⟩
    refine ⟨?_, hb⟩
    rw [g3, g4, g5, (ta rfl).1, (ta rfl).2, tc rfl]
    rfl
  · obtain ⟨f0, f1, g1, g2, g3, g4, g5⟩ := f_facts nr st pt (fst2 nr st pt + 128) (.inr rfl)
    refine (dec_00100 (fst2 nr st pt + 128) tl g off cap w hg f0 f1 g1 g2 (by have := fst2_bd nr st pt; omega) (hc 0 (by show 0 < 3; omega)) (hc 1 (by show 1 < 3; omega)) (hc 2 (by show 2 < 3; omega))).mono ?_
    rintro e w' ⟨rfl, hb⟩
    refine ⟨?_, hb⟩
    rw [g3, g4, g5]
    rfl
  · obtain ⟨f0, f1, g1, g2, g3, g4, g5⟩ := f_facts nr st pt (fst2 nr st pt + 128) (.inr rfl)
    refine (dec_00101 (fst2 nr st pt + 128) tl (tb false tid ls true ky) g off cap w hg f0 f1 g1 g2 (by have := fst2_bd nr st pt; omega) t0 t1 (tbb rfl) (hc 0 (by show 0 < 4; omega)) (hc 1 (by show 1 < 4; omega)) (hc 2 (by show 2 < 4; omega)) (hc 3 (by show 3 < 4; omega))).mono ?_
    rintro e w' ⟨rfl, hb⟩
    refine ⟨?_, hb⟩
    rw [g3, g4, g5, tc rfl]
    rfl
  · obtain ⟨f0, f1, g1, g2, g3, g4, g5⟩ := f_facts nr st pt (fst2 nr st pt + 128) (.inr rfl)
    refine (dec_00110 (fst2 nr st pt + 128) tl (tb true tid ls false ky) g off cap w hg f0 f1 g1 g2 (by have := fst2_bd nr st pt; omega) t0 t1 (td rfl) (hc 0 (by show 0 < 4; omega)) (hc 1 (by show 1 < 4; omega)) (hc 2 (by show 2 < 4; omega)) (hc 3 (by show 3 < 4; omega))).mono ?_
    rintro e w' ⟨rfl, hb⟩
    refine ⟨?_, hb⟩
    rw [g3, g4, g5, (ta rfl).1, (ta rfl).2]
    rfl
  · obtain ⟨f0, f1, g1, g2, g3, g4, g5⟩ := f_facts nr st pt (fst2 nr st pt + 128) (.inr rfl)
    refine (dec_00111 (fst2 nr st pt + 128) tl (tb true tid ls true ky) g off cap w hg f0 f1 g1 g2 (by have := fst2_bd nr st pt; omega) t0 t1 (hc 0 (by show 0 < 4; omega)) (hc 1 (by show 1 < 4; omega)) (hc 2 (by show 2 < 4; omega)) (hc 3 (by show 3 < 4; omega))).mono ?_
    rintro e w' ⟨rfl, hb⟩
    refine ⟨?_, hb⟩
    rw [g3, g4, g5, (ta rfl).1, (ta rfl).2, tc rfl]
    rfl
  · obtain ⟨f0, f1, g1, g2, g3, g4, g5⟩ := f_facts nr st pt (fst2 nr st pt + 128) (.inr rfl)
    refine (dec_10000 (fst2 nr st pt + 128) (pid % 128) g off cap w hg f0 f1 g1 g2 (by have := fst2_bd nr st pt; omega) (by omega) (by omega) (hc 0 (by show 0 < 3; omega)) (hc 1 (by show 1 < 3; omega)) (hc 2 (by show 2 < 3; omega))).mono ?_
    rintro e w' ⟨rfl, hb⟩
    refine ⟨?_, hb⟩
    rw [g3, g4, g5]
    rfl
  · obtain ⟨f0, f1, g1, g2, g3, g4, g5⟩ := f_facts nr st pt (fst2 nr st pt + 128) (.inr rfl)
    refine (dec_10001 (fst2 nr st pt + 128) (pid % 128) (tb false tid ls true ky) g off cap w hg f0 f1 g1 g2 (by have := fst2_bd nr st pt; omega) (by omega) (by omega) t0 t1 (tbb rfl) (hc 0 (by show 0 < 4; omega)) (hc 1 (by show 1 < 4; omega)) (hc 2 (by show 2 < 4; omega)) (hc 3 (by show 3 < 4; omega))).mono ?_
    rintro e w' ⟨rfl, hb⟩
    refine ⟨?_, hb⟩
    rw [g3, g4, g5, tc rfl]
    rfl
  · obtain ⟨f0, f1, g1, g2, g3, g4, g5⟩ := f_facts nr st pt (fst2 nr st pt + 128) (.inr rfl)
    refine (dec_10010 (fst2 nr st pt + 128) (pid % 128) (tb true tid ls false ky) g off cap w hg f0 f1 g1 g2 (by have := fst2_bd nr st pt; omega) (by omega) (by omega) t0 t1 (td rfl) (hc 0 (by show 0 < 4; omega)) (hc 1 (by show 1 < 4; omega)) (hc 2 (by show 2 < 4; omega)) (hc 3 (by show 3 < 4; omega))).mono ?_
    rintro e w' ⟨rfl, hb⟩
    refine ⟨?_, hb⟩
    rw [g3, g4, g5, (ta rfl).1, (ta rfl).2]
    rfl
  · obtain ⟨f0, f1, g1, g2, g3, g4, g5⟩ := f_facts nr st pt (fst2 nr st pt + 128) (.inr rfl)
    refine (dec_10011 (fst2 nr st pt + 128) (pid % 128) (tb true tid ls true ky) g off cap w hg f0 f1 g1 g2 (by have := fst2_bd nr st pt; omega) (by omega) (by omega) t0 t1 (hc 0 (by show 0 < 4; omega)) (hc 1 (by show 1 < 4; omega)) (hc 2 (by show 2 < 4; omega)) (hc 3 (by show 3 < 4; omega))).mono ?_
    rintro e w' ⟨rfl, hb⟩
    refine ⟨?_, hb⟩
    rw [g3, g4, g5, (ta rfl).1, (ta rfl).2, tc rfl]
    rfl
  · obtain ⟨f0, f1, g1, g2, g3, g4, g5⟩ := f_facts nr st pt (fst2 nr st pt + 128) (.inr rfl)
    refine (dec_10100 (fst2 nr st pt + 128) (pid % 128) tl g off cap w hg f0 f1 g1 g2 (by have := fst2_bd nr st pt; omega) (by omega) (by omega) (hc 0 (by show 0 < 4; omega)) (hc 1 (by show 1 < 4; omega)) (hc 2 (by show 2 < 4; omega)) (hc 3 (by show 3 < 4; omega))).mono ?_
    rintro e w' ⟨rfl, hb⟩
    refine ⟨?_, hb⟩
    rw [g3, g4, g5]
    rfl
  · obtain ⟨f0, f1, g1, g2, g3, g4, g5⟩ := f_facts nr st pt (fst2 nr st pt + 128) (.inr rfl)
    refine (dec_10101 (fst2 nr st pt + 128) (pid % 128) tl (tb false tid ls true ky) g off cap w hg f0 f1 g1 g2 (by have := fst2_bd nr st pt; omega) (by omega) (by omega) t0 t1 (tbb rfl) (hc 0 (by show 0 < 5; omega)) (hc 1 (by show 1 < 5; omega)) (hc 2 (by show 2 < 5; omega)) (hc 3 (by show 3 < 5; omega)) (hc 4 (by show 4 < 5; omega))).mono ?_
    rintro e w' ⟨rfl, hb⟩
    refine ⟨?_, hb⟩
    rw [g3, g4, g5, tc rfl]
    rfl
  · obtain ⟨f0, f1, g1, g2, g3, g4, g5⟩ := f_facts nr st pt (fst2 nr st pt + 128) (.inr rfl)
    refine (dec_10110 (fst2 nr st pt + 128) (pid % 128) tl (tb true tid ls false ky) g off cap w hg f0 f1 g1 g2 (by have := fst2_bd nr st pt; omega) (by omega) (by omega) t0 t1 (td rfl) (hc 0 (by show 0 < 5; omega)) (hc 1 (by show 1 < 5; omega)) (hc 2 (by show 2 < 5; omega)) (hc 3 (by show 3 < 5; omega)) (hc 4 (by show 4 < 5; omega))).mono ?_
    rintro e w' ⟨rfl, hb⟩
    refine ⟨?_, hb⟩
    rw [g3, g4, g5, (ta rfl).1, (ta rfl).2]
    rfl
  · obtain ⟨f0, f1, g1, g2, g3, g4, g5⟩ := f_facts nr st pt (fst2 nr st pt + 128) (.inr rfl)
    refine (dec_10111 (fst2 nr st pt + 128) (pid % 128) tl (tb true tid ls true ky) g off cap w hg f0 f1 g1 g2 (by have := fst2_bd nr st pt; omega) (by omega) (by omega) t0 t1 (hc 0 (by show 0 < 5; omega)) (hc 1 (by show 1 < 5; omega)) (hc 2 (by show 2 < 5; omega)) (hc 3 (by show 3 < 5; omega)) (hc 4 (by show 4 < 5; omega))).mono ?_
    rintro e w' ⟨rfl, hb⟩
    refine ⟨?_, hb⟩
    rw [g3, g4, g5, (ta rfl).1, (ta rfl).2, tc rfl]
    rfl
  · obtain ⟨f0, f1, g1, g2, g3, g4, g5⟩ := f_facts nr st pt (fst2 nr st pt + 128) (.inr rfl)
    refine (dec_11000 (fst2 nr st pt + 128) (128 + pid / 256 % 128) (pid % 256) g off cap w hg f0 f1 g1 g2 (by have := fst2_bd nr st pt; omega) (by omega) (by omega) (by omega) (by omega) (hc 0 (by show 0 < 4; omega)) (hc 1 (by show 1 < 4; omega)) (hc 2 (by show 2 < 4; omega)) (hc 3 (by show 3 < 4; omega))).mono ?_
    rintro e w' ⟨rfl, hb⟩
    refine ⟨?_, hb⟩
    have ep : (128 + pid / 256 % 128 - 128) * 256 + pid % 256 = pid % 32768 := by omega
    rw [g3, g4, g5, ep]
    rfl
  · obtain ⟨f0, f1, g1, g2, g3, g4, g5⟩ := f_facts nr st pt (fst2 nr st pt + 128) (.inr rfl)
    refine (dec_11001 (fst2 nr st pt + 128) (128 + pid / 256 % 128) (pid % 256) (tb false tid ls true ky) g off cap w hg f0 f1 g1 g2 (by have := fst2_bd nr st pt; omega) (by omega) (by omega) (by omega) (by omega) t0 t1 (tbb rfl) (hc 0 (by show 0 < 5; omega)) (hc 1 (by show 1 < 5; omega)) (hc 2 (by show 2 < 5; omega)) (hc 3 (by show 3 < 5; omega)) (hc 4 (by show 4 < 5; omega))).mono ?_
    rintro e w' ⟨rfl, hb⟩
    refine ⟨?_, hb⟩
    have ep : (128 + pid / 256 % 128 - 128) * 256 + pid % 256 = pid % 32768 := by omega
    rw [g3, g4, g5, ep, tc rfl]
    rfl
  · obtain ⟨f0, f1, g1, g2, g3, g4, g5⟩ := f_facts nr st pt (fst2 nr st pt + 128) (.inr rfl)
    refine (dec_11010 (fst2 nr st pt + 128) (128 + pid / 256 % 128) (pid % 256) (tb true tid ls false ky) g off cap w hg f0 f1 g1 g2 (by have := fst2_bd nr st pt; omega) (by omega) (by omega) (by omega) (by omega) t0 t1 (td rfl) (hc 0 (by show 0 < 5; omega)) (hc 1 (by show 1 < 5; omega)) (hc 2 (by show 2 < 5; omega)) (hc 3 (by show 3 < 5; omega)) (hc 4 (by show 4 < 5; omega))).mono ?_
    rintro e w' ⟨rfl, hb⟩
    refine ⟨?_, hb⟩
    have ep : (128 + pid / 256 % 128 - 128) * 256 + pid % 256 = pid % 32768 := by omega
    rw [g3, g4, g5, ep, (ta rfl).1, (ta rfl).2]
    rfl
  · obtain ⟨f0, f1, g1, g2, g3, g4, g5⟩ := f_facts nr st pt (fst2 nr st pt + 128) (.inr rfl)
    refine (dec_11011 (fst2 nr st pt + 128) (128 + pid / 256 % 128) (pid % 256) (tb true tid ls true ky) g off cap w hg f0 f1 g1 g2 (by have := fst2_bd nr st pt; omega) (by omega) (by omega) (by omega) (by omega) t0 t1 (hc 0 (by show 0 < 5; omega)) (hc 1 (by show 1 < 5; omega)) (hc 2 (by show 2 < 5; omega)) (hc 3 (by show 3 < 5; omega)) (hc 4 (by show 4 < 5; omega))).mono ?_
    rintro e w' ⟨rfl, hb⟩
    refine ⟨?_, hb⟩
    have ep : (128 + pid / 256 % 128 - 128) * 256 + pid % 256 = pid % 32768 := by omega
    rw [g3, g4, g5, ep, (ta rfl).1, (ta rfl).2, tc rfl]
    rfl
  · obtain ⟨f0, f1, g1, g2, g3, g4, g5⟩ := f_facts nr st pt (fst2 nr st pt + 128) (.inr rfl)
    refine (dec_11100 (fst2 nr st pt + 128) (128 + pid / 256 % 128) (pid % 256) tl g off cap w hg f0 f1 g1 g2 (by have := fst2_bd nr st pt; omega) (by omega) (by omega) (by omega) (by omega) (hc 0 (by show 0 < 5; omega)) (hc 1 (by show 1 < 5; omega)) (hc 2 (by show 2 < 5; omega)) (hc 3 (by show 3 < 5; omega)) (hc 4 (by show 4 < 5; omega))).mono ?_
    rintro e w' ⟨rfl, hb⟩
    refine ⟨?_, hb⟩
    have ep : (128 + pid / 256 % 128 - 128) * 256 + pid % 256 = pid % 32768 := by omega
    rw [g3, g4, g5, ep]
    rfl
  · obtain ⟨f0, f1, g1, g2, g3, g4, g5⟩ := f_facts nr st pt (fst2 nr st pt + 128) (.inr rfl)
    refine (dec_11101 (fst2 nr st pt + 128) (128 + pid / 256 % 128) (pid % 256) tl (tb false tid ls true ky) g off cap w hg f0 f1 g1 g2 (by have := fst2_bd nr st pt; omega) (by omega) (by omega) (by omega) (by omega) t0 t1 (tbb rfl) (hc 0 (by show 0 < 6; omega)) (hc 1 (by show 1 < 6; omega)) (hc 2 (by show 2 < 6; omega)) (hc 3 (by show 3 < 6; omega)) (hc 4 (by show 4 < 6; omega)) (hc 5 (by show 5 < 6; omega))).mono ?_
    rintro e w' ⟨rfl, hb⟩
    refine ⟨?_, hb⟩
    have ep : (128 + pid / 256 % 128 - 128) * 256 + pid % 256 = pid % 32768 := by omega
    rw [g3, g4, g5, ep, tc rfl]
    rfl
  · obtain ⟨f0, f1, g1, g2, g3, g4, g5⟩ := f_facts nr st pt (fst2 nr st pt + 128) (.inr rfl)
    refine (dec_11110 (fst2 nr st pt + 128) (128 + pid / 256 % 128) (pid % 256) tl (tb true tid ls false ky) g off cap w hg f0 f1 g1 g2 (by have := fst2_bd nr st pt; omega) (by omega) (by omega) (by omega) (by omega) t0 t1 (td rfl) (hc 0 (by show 0 < 6; omega)) (hc 1 (by show 1 < 6; omega)) (hc 2 (by show 2 < 6; omega)) (hc 3 (by show 3 < 6; omega)) (hc 4 (by show 4 < 6; omega)) (hc 5 (by show 5 < 6; omega))).mono ?_
    rintro e w' ⟨rfl, hb⟩
    refine ⟨?_, hb⟩
    have ep : (128 + pid / 256 % 128 - 128) * 256 + pid % 256 = pid % 32768 := by omega
    rw [g3, g4, g5, ep, (ta rfl).1, (ta rfl).2]
    rfl
  · obtain ⟨f0, f1, g1, g2, g3, g4, g5⟩ := f_facts nr st pt (fst2 nr st pt + 128) (.inr rfl)
    refine (dec_11111 (fst2 nr st pt + 128) (128 + pid / 256 % 128) (pid % 256) tl (tb true tid ls true ky) g off cap w hg f0 f1 g1 g2 (by have := fst2_bd nr st pt; omega) (by omega) (by omega) (by omega) (by omega) t0 t1 (hc 0 (by show 0 < 6; omega)) (hc 1 (by show 1 < 6; omega)) (hc 2 (by show 2 < 6; omega)) (hc 3 (by show 3 < 6; omega)) (hc 4 (by show 4 < 6; omega)) (hc 5 (by show 5 < 6; omega))).mono ?_
    rintro e w' ⟨rfl, hb⟩
    refine ⟨?_, hb⟩
    have ep : (128 + pid / 256 % 128 - 128) * 256 + pid % 256 = pid % 32768 := by omega
    rw [g3, g4, g5, ep, (ta rfl).1, (ta rfl).2, tc rfl]
    rfl
end Go.Proofs.Qxb6600572a
