import Derived.Test.Qxb6605359aDec
namespace Go.Proofs.Qxb6605359a
open Go.RowKit

/-- The bytes that an open state stands for. -/
def pA (o : Int) : Int := if o = 1 then 194 else if o = 2 ∨ o = 6 then 225 else if o = 3 then 224 else if o = 4 ∨ o = 7 then 226 else if o = 5 then 237 else if o = 8 ∨ o = 11 ∨ o = 12 then 241 else if o = 9 then 240 else if o = 10 then 244 else 0
def pB (o : Int) : Int := if o = 6 ∨ o = 7 ∨ o = 11 ∨ o = 12 then 128 else 0
def pC (o : Int) : Int := if o = 12 then 128 else 0

def chk0 (o b : Int) : Bool := !(ob o == 0) || ((decA (bAt b (pB o) (pC o) 0) 1 4 0 0).1 == usEx o (bf b) &&
  (((decA (bAt b (pB o) (pC o) 0) 1 4 0 0).2 == 0 && usTo o (bf b) == sOf b 0 1) || ((decA (bAt b (pB o) (pC o) 0) 1 4 0 0).2 == 1 && usTo o (bf b) == sOf 0 0 0)))
def chk1 (o b : Int) : Bool := !(ob o == 1) || ((decA (bAt (pA o) b (pC o) 0) 2 4 0 0).1 == usEx o (bf b) &&
  (((decA (bAt (pA o) b (pC o) 0) 2 4 0 0).2 == 0 && usTo o (bf b) == sOf (pA o) b 2) || ((decA (bAt (pA o) b (pC o) 0) 2 4 0 0).2 == 1 && usTo o (bf b) == sOf b 0 1) || ((decA (bAt (pA o) b (pC o) 0) 2 4 0 0).2 == 2 && usTo o (bf b) == sOf 0 0 0)))
def chk2 (o b : Int) : Bool := !(ob o == 2) || ((decA (bAt (pA o) (pB o) b 0) 3 4 0 0).1 == usEx o (bf b) &&
  (((decA (bAt (pA o) (pB o) b 0) 3 4 0 0).2 == 0 && usTo o (bf b) == sOf (pA o) (pB o) 3) || ((decA (bAt (pA o) (pB o) b 0) 3 4 0 0).2 == 2 && usTo o (bf b) == sOf b 0 1) || ((decA (bAt (pA o) (pB o) b 0) 3 4 0 0).2 == 3 && usTo o (bf b) == sOf 0 0 0)))
def chk3 (o b : Int) : Bool := !(ob o == 3) || ((decA (bAt (pA o) (pB o) (pC o) b) 4 4 0 0).1 == usEx o (bf b) &&
  (((decA (bAt (pA o) (pB o) (pC o) b) 4 4 0 0).2 == 3 && usTo o (bf b) == sOf b 0 1) || ((decA (bAt (pA o) (pB o) (pC o) b) 4 4 0 0).2 == 4 && usTo o (bf b) == sOf 0 0 0)))

theorem chk_all : ∀ (o : Fin 13) (b : Fin 256), (chk0 (o.val : Nat) (b.val : Nat) && chk1 (o.val : Nat) (b.val : Nat) && chk2 (o.val : Nat) (b.val : Nat) && chk3 (o.val : Nat) (b.val : Nat)) = true := by decide +kernel

theorem chk_at (o : Int) (b : Nat) (h0 : 0 ≤ o) (h1 : o ≤ 12) (hb : b < 256) : chk0 o b = true ∧ chk1 o b = true ∧ chk2 o b = true ∧ chk3 o b = true := by
  obtain ⟨O, rfl⟩ := Int.eq_ofNat_of_zero_le h0
  have := chk_all ⟨O, by omega⟩ ⟨b, hb⟩
  simp only [Bool.and_eq_true] at this
  obtain ⟨⟨⟨a, b⟩, c⟩, d⟩ := this
  exact ⟨a, b, c, d⟩

/-! ### the law, by the number of open bytes -/
theorem pl0 (o : Int) (b : Nat) (h0 : 0 ≤ o) (h1 : o ≤ 12) (hb : b < 256) (hn : ob o = 0) :
    ∃ T : Nat, decA (bAt b (pB o) (pC o) 0) 1 4 0 0 = (usEx o (bf b), T) ∧ ((T = 0 ∧ usTo o (bf b) = sOf b 0 1) ∨ (T = 1 ∧ usTo o (bf b) = sOf 0 0 0)) := by
  have h := (chk_at o b h0 h1 hb).1
  unfold chk0 at h
  rw [hn] at h
  generalize decA (bAt b (pB o) (pC o) 0) 1 4 0 0 = R at h ⊢
  obtain ⟨X, T⟩ := R
  simp only [beq_self_eq_true, Bool.not_true, Bool.false_or, Bool.and_eq_true, Bool.or_eq_true, beq_iff_eq] at h
  exact ⟨T, by rw [h.1], h.2⟩
theorem pl1 (o : Int) (b : Nat) (h0 : 0 ≤ o) (h1 : o ≤ 12) (hb : b < 256) (hn : ob o = 1) :
    ∃ T : Nat, decA (bAt (pA o) b (pC o) 0) 2 4 0 0 = (usEx o (bf b), T) ∧ ((T = 0 ∧ usTo o (bf b) = sOf (pA o) b 2) ∨ (T = 1 ∧ usTo o (bf b) = sOf b 0 1) ∨ (T = 2 ∧ usTo o (bf b) = sOf 0 0 0)) := by
  have h := (chk_at o b h0 h1 hb).2.1
  unfold chk1 at h
  rw [hn] at h
  generalize decA (bAt (pA o) b (pC o) 0) 2 4 0 0 = R at h ⊢
  obtain ⟨X, T⟩ := R
  simp only [beq_self_eq_true, Bool.not_true, Bool.false_or, Bool.and_eq_true, Bool.or_eq_true, beq_iff_eq, or_assoc] at h
  exact ⟨T, by rw [h.1], h.2⟩
theorem pl2 (o : Int) (b : Nat) (h0 : 0 ≤ o) (h1 : o ≤ 12) (hb : b < 256) (hn : ob o = 2) :
    ∃ T : Nat, decA (bAt (pA o) (pB o) b 0) 3 4 0 0 = (usEx o (bf b), T) ∧ ((T = 0 ∧ usTo o (bf b) = sOf (pA o) (pB o) 3) ∨ (T = 2 ∧ usTo o (bf b) = sOf b 0 1) ∨ (T = 3 ∧ usTo o (bf b) = sOf 0 0 0)) := by
  have h := (chk_at o b h0 h1 hb).2.2.1
  unfold chk2 at h
  rw [hn] at h
  generalize decA (bAt (pA o) (pB o) b 0) 3 4 0 0 = R at h ⊢
  obtain ⟨X, T⟩ := R
  simp only [beq_self_eq_true, Bool.not_true, Bool.false_or, Bool.and_eq_true, Bool.or_eq_true, beq_iff_eq, or_assoc] at h
  exact ⟨T, by rw [h.1], h.2⟩
theorem pl3 (o : Int) (b : Nat) (h0 : 0 ≤ o) (h1 : o ≤ 12) (hb : b < 256) (hn : ob o = 3) :
    ∃ T : Nat, decA (bAt (pA o) (pB o) (pC o) b) 4 4 0 0 = (usEx o (bf b), T) ∧ ((T = 3 ∧ usTo o (bf b) = sOf b 0 1) ∨ (T = 4 ∧ usTo o (bf b) = sOf 0 0 0)) := by
  have h := (chk_at o b h0 h1 hb).2.2.2
  unfold chk3 at h
  rw [hn] at h
  generalize decA (bAt (pA o) (pB o) (pC o) b) 4 4 0 0 = R at h ⊢
  obtain ⟨X, T⟩ := R
  simp only [beq_self_eq_true, Bool.not_true, Bool.false_or, Bool.and_eq_true, Bool.or_eq_true, beq_iff_eq] at h
  exact ⟨T, by rw [h.1], h.2⟩
end Go.Proofs.Qxb6605359a
