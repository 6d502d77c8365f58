import Derived.Test.Qxb6605333aSym
namespace Go.Proofs.Qxb6605333a
open Go.RowKit

/-- What one byte of perms adds to the bits. -/
def gb (u perm um : Int) (dir inU : Bool) (c : Int) : Int :=
  if c = 114 ∨ c = 119 ∨ c = 120 then (if inU then bits .andNot .u32 (rwx c * 2 ^ (sh u).toNat % 4294967296) um else rwx c * 2 ^ (sh u).toNat % 4294967296)
  else if c = 88 then (if (dir || (bits .and .u32 perm 73 != 0)) = true then 2 ^ (sh u).toNat % 4294967296 else 0)
  else if c = 115 then sbit u
  else if c = 116 then tbit u
  else if c = 117 ∨ c = 103 ∨ c = 111 then bits .and .u32 (perm / 2 ^ (sh c).toNat) 7 * 2 ^ (sh u).toNat % 4294967296
  else 0

/-- What all bytes add, from the left. -/
def symL (g : Int → Int) (l : List UInt8) : Int := l.foldl (fun acc c => bits .or .u32 acc (g (c.toNat : Int))) 0

theorem bits_range (op : BinOp) (a b : Int) : 0 ≤ bits op .u32 a b ∧ bits op .u32 a b < 4294967296 := by
  unfold bits
  rw [IntKind.wrap_u32']
  omega

theorem gb_range (u perm um : Int) (dir inU : Bool) (c : Int) : 0 ≤ gb u perm um dir inU c ∧ gb u perm um dir inU c < 4294967296 := by
  unfold gb
  repeat' split
  all_goals first | exact bits_range _ _ _ | omega | (unfold sbit; split <;> (try split) <;> omega) | (unfold tbit; split <;> omega)

theorem symL_range_from (g : Int → Int) : ∀ (l : List UInt8) (acc : Int), 0 ≤ acc ∧ acc < 4294967296 → 0 ≤ l.foldl (fun acc c => bits .or .u32 acc (g (c.toNat : Int))) acc ∧ l.foldl (fun acc c => bits .or .u32 acc (g (c.toNat : Int))) acc < 4294967296
  | [], _, h => h
  | c :: r, acc, _ => symL_range_from g r (bits .or .u32 acc (g (c.toNat : Int))) (bits_range _ _ _)

theorem symL_range (g : Int → Int) (l : List UInt8) : 0 ≤ symL g l ∧ symL g l < 4294967296 := symL_range_from g l 0 (by omega)

theorem symL_snoc (g : Int → Int) (l : List UInt8) (c : UInt8) : symL g (l ++ [c]) = bits .or .u32 (symL g l) (g (c.toNat : Int)) := by
  simp [symL]

theorem or_zero {x : Int} (h : 0 ≤ x ∧ x < 4294967296) : bits .or .u32 x 0 = x := by
  rw [u32_or x 0 h.1 h.2 (by omega) (by omega)]
  simp
  omega

theorem or_assoc {a b c : Int} (ha : 0 ≤ a ∧ a < 4294967296) (hb : 0 ≤ b ∧ b < 4294967296) (hc : 0 ≤ c ∧ c < 4294967296) :
    bits .or .u32 (bits .or .u32 a b) c = bits .or .u32 a (bits .or .u32 b c) := by
  have h1 := bits_range .or a b
  have h2 := bits_range .or b c
  rw [u32_or _ c h1.1 h1.2 hc.1 hc.2, u32_or a _ ha.1 ha.2 h2.1 h2.2, u32_or a b ha.1 ha.2 hb.1 hb.2, u32_or b c hb.1 hb.2 hc.1 hc.2]
  simp only [Int.toNat_natCast]
  rw [Nat.or_assoc]

theorem zero_or {x : Int} (h : 0 ≤ x ∧ x < 4294967296) : bits .or .u32 0 x = x := by
  rw [u32_or 0 x (by omega) (by omega) h.1 h.2]
  simp
  omega

theorem symL_from (g : Int → Int) (hg : ∀ c, 0 ≤ g c ∧ g c < 4294967296) : ∀ (l : List UInt8) (acc : Int), 0 ≤ acc ∧ acc < 4294967296 →
    l.foldl (fun acc c => bits .or .u32 acc (g (c.toNat : Int))) acc = bits .or .u32 acc (symL g l)
  | [], acc, h => (or_zero h).symm
  | c :: r, acc, h => by
    have e1 := symL_from g hg r (bits .or .u32 acc (g (c.toNat : Int))) (bits_range _ _ _)
    have e2 := symL_from g hg r (g (c.toNat : Int)) (hg _)
    have e3 : symL g (c :: r) = bits .or .u32 (g (c.toNat : Int)) (symL g r) := by
      rw [← e2]
      show List.foldl _ (bits .or .u32 0 (g (c.toNat : Int))) r = _
      rw [zero_or (hg _)]
    rw [List.foldl_cons, e1, e3, or_assoc h (hg _) (symL_range g r)]

/-- THE PLAIN LAW: the bits of a text put together are the bits of its two parts put together. -/
theorem symL_append (g : Int → Int) (hg : ∀ c, 0 ≤ g c ∧ g c < 4294967296) (a b : List UInt8) : symL g (a ++ b) = bits .or .u32 (symL g a) (symL g b) := by
  rw [← symL_from g hg b (symL g a) (symL_range g a)]
  simp [symL]

/-- The second half: 'rwx' outside the umask. -/
theorem sh_three (u : Int) : sh u = 6 ∨ sh u = 3 ∨ sh u = 0 := by
  unfold sh; split
  · exact .inl rfl
  · split
    · exact .inr (.inl rfl)
    · exact .inr (.inr rfl)
theorem rwx_full (u perm um : Int) (dir : Bool) : symL (gb u perm um dir false) [114, 119, 120] = 7 * 2 ^ (sh u).toNat % 4294967296 := by
  have e : symL (gb u perm um dir false) [114, 119, 120] = bits .or .u32 (bits .or .u32 (bits .or .u32 0 (4 * 2 ^ (sh u).toNat % 4294967296)) (2 * 2 ^ (sh u).toNat % 4294967296)) (1 * 2 ^ (sh u).toNat % 4294967296) := rfl
  rw [e]
  rcases sh_three u with h | h | h <;> rw [h] <;> decide +kernel

end Go.Proofs.Qxb6605333a
