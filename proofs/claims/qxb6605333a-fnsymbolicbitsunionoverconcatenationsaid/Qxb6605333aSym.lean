import Derived.Test.Qxb6605333aRows
import Derived.WalkKit
import Derived.WalkSpells
import Derived.WalkLawsBesides
import Derived.Maps.Own
import Derived.Maps.OwnOps
import Derived.Maps.OwnSet
namespace Go.Proofs.Qxb6605333a
open Go.RowKit Go.Maps

theorem law5 : Keyed Try.prog 5 := int_keyed Try.underlying5
theorem zero32 (w : World) : (zeroValue 32).run Try.prog w = .ok (.int .u64 0) w := by kernel_rfl
theorem zero29 (w : World) : (zeroValue 29).run Try.prog w = .ok (.int .u32 0) w := by kernel_rfl

/-- One store of a literal's entry, into the call's own map. -/
theorem step_put {t e : TypeId} {q : IntKind} {w0 w : World} {B n : Nat} {D : DataW Unit} (ht : Try.prog.underlying t = some (.map 5 e)) (he : Try.prog.underlying e = some (.int q))
    (hown : w.ownsMap Try.prog 5 (plainElem Try.prog e) B n D) (hB : Below B w0 w) (hn : n < 100) (key val : Int) (hk : (Lit.int .u8 key).wf = true) (hv : (Lit.int q val).wf = true) :
    ∃ w', (Instr.mapUpdate t (.map (some B)) (.int .u8 key) (.int q val)).run Try.prog w = .ok () w' ∧ w'.ownsMap Try.prog 5 (plainElem Try.prog e) B (n + 1) (D.put (.int .u8 key) (.lit (.int q val))) ∧ Below B w0 w' := by
  obtain ⟨w', h1, h2, h3⟩ := hown.update law5 ht (by unfold maxLen; omega) (keyOf_int_mk Try.underlying5 hk) (plainElem_int he hv)
  exact ⟨w', h1, h2, hB.grown h3 (Nat.le_of_lt hown.lt) (fun j hj => by cases hj; exact Nat.le_refl _)⟩

/-- The shift of a kind of users: the literal map's element. -/
def sh (u : Int) : Int := if u = 117 then 6 else if u = 103 then 3 else 0
theorem sh_bd (u : Int) : 0 ≤ sh u ∧ sh u ≤ 6 := by unfold sh; split <;> (try split) <;> omega
def rwx (u : Int) : Int := if u = 114 then 4 else if u = 119 then 2 else if u = 120 then 1 else 0
def sbit (u : Int) : Int := if u = 117 then 2048 else if u = 103 then 1024 else 0
def tbit (u : Int) : Int := if u = 111 then 512 else 0

theorem lit_ne {a b : Int} (h : a ≠ b) : (Lit.int .u8 a) ≠ (Lit.int .u8 b) := by intro e; cases e; exact h rfl

theorem ik (a : Int) : WideAt.IsKeyLit (.int .u8 a) := trivial

theorem lit37 (u : Int) (hu : (Lit.int .u8 u).wf = true) (w : World) : ∃ w1 w2 w3,
    (Instr.mapUpdate 37 (.map (some w.heap.size)) (.int .u8 117) (.int .u64 6)).run Try.prog (w.alloc (.map #[] 0)) = .ok () w1 ∧
    (Instr.mapUpdate 37 (.map (some w.heap.size)) (.int .u8 103) (.int .u64 3)).run Try.prog w1 = .ok () w2 ∧
    (Instr.mapUpdate 37 (.map (some w.heap.size)) (.int .u8 111) (.int .u64 0)).run Try.prog w2 = .ok () w3 ∧
    (Instr.lookup 37 (.map (some w.heap.size)) (.int .u8 u) false).run Try.prog w3 = .ok (.int .u64 (sh u)) w3 ∧ Below w.heap.size w w3 := by
  have o0 := World.ownsMap_made w Try.prog 5 (plainElem (H := Unit) Try.prog 32)
  obtain ⟨w1, r1, o1, b1⟩ := step_put Try.underlying37 Try.underlying32 o0 ((Below.refl _ _).alloc (Nat.le_refl _) _) (by omega) 117 6 (by decide) (by decide)
  obtain ⟨w2, r2, o2, b2⟩ := step_put Try.underlying37 Try.underlying32 o1 b1 (by omega) 103 3 (by decide) (by decide)
  obtain ⟨w3, r3, o3, b3⟩ := step_put Try.underlying37 Try.underlying32 o2 b2 (by omega) 111 0 (by decide) (by decide)
  obtain ⟨c, hrun, hat, hwc⟩ := o3.lookup_int law5 Try.underlying37 Try.underlying32 (zero32 _) (keyOf_int_mk Try.underlying5 hu)
  refine ⟨w1, w2, w3, r1, r2, r3, ?_, b3⟩
  rw [hrun]
  have : c = sh u := by
    unfold sh
    by_cases h2 : u = 111
    · subst h2; rw [atKey_put_same o2.isMap (ik _)] at hat; cases hat; rfl
    rw [atKey_put_other (lit_ne h2)] at hat
    by_cases h1 : u = 103
    · subst h1; rw [atKey_put_same o1.isMap (ik _)] at hat; cases hat; rfl
    rw [atKey_put_other (lit_ne h1)] at hat
    by_cases h0 : u = 117
    · subst h0; rw [atKey_put_same o0.isMap (ik _)] at hat; cases hat; rfl
    rw [atKey_put_other (lit_ne h0)] at hat
    have hat' : (DataW.lit (H := Unit) (.int .u64 0)) = .lit (.int .u64 c) := hat
    cases hat'
    simp [h0, h1]
  rw [this]

theorem lit38r (u : Int) (hu : (Lit.int .u8 u).wf = true) (w : World) : ∃ w1 w2 w3,
    (Instr.mapUpdate 38 (.map (some w.heap.size)) (.int .u8 114) (.int .u32 4)).run Try.prog (w.alloc (.map #[] 0)) = .ok () w1 ∧
    (Instr.mapUpdate 38 (.map (some w.heap.size)) (.int .u8 119) (.int .u32 2)).run Try.prog w1 = .ok () w2 ∧
    (Instr.mapUpdate 38 (.map (some w.heap.size)) (.int .u8 120) (.int .u32 1)).run Try.prog w2 = .ok () w3 ∧
    (Instr.lookup 38 (.map (some w.heap.size)) (.int .u8 u) false).run Try.prog w3 = .ok (.int .u32 (rwx u)) w3 ∧ Below w.heap.size w w3 := by
  have o0 := World.ownsMap_made w Try.prog 5 (plainElem (H := Unit) Try.prog 29)
  obtain ⟨w1, r1, o1, b1⟩ := step_put Try.underlying38 Try.underlying29 o0 ((Below.refl _ _).alloc (Nat.le_refl _) _) (by omega) 114 4 (by decide) (by decide)
  obtain ⟨w2, r2, o2, b2⟩ := step_put Try.underlying38 Try.underlying29 o1 b1 (by omega) 119 2 (by decide) (by decide)
  obtain ⟨w3, r3, o3, b3⟩ := step_put Try.underlying38 Try.underlying29 o2 b2 (by omega) 120 1 (by decide) (by decide)
  obtain ⟨c, hrun, hat, hwc⟩ := o3.lookup_int law5 Try.underlying38 Try.underlying29 (zero29 _) (keyOf_int_mk Try.underlying5 hu)
  refine ⟨w1, w2, w3, r1, r2, r3, ?_, b3⟩
  rw [hrun]
  have : c = rwx u := by
    unfold rwx
    by_cases h2 : u = 120
    · subst h2; rw [atKey_put_same o2.isMap (ik _)] at hat; cases hat; rfl
    rw [atKey_put_other (lit_ne h2)] at hat
    by_cases h1 : u = 119
    · subst h1; rw [atKey_put_same o1.isMap (ik _)] at hat; cases hat; rfl
    rw [atKey_put_other (lit_ne h1)] at hat
    by_cases h0 : u = 114
    · subst h0; rw [atKey_put_same o0.isMap (ik _)] at hat; cases hat; rfl
    rw [atKey_put_other (lit_ne h0)] at hat
    have hat' : (DataW.lit (H := Unit) (.int .u32 0)) = .lit (.int .u32 c) := hat
    cases hat'
    simp [h0, h1, h2]
  rw [this]

theorem lit38s (u : Int) (hu : (Lit.int .u8 u).wf = true) (w : World) : ∃ w1 w2,
    (Instr.mapUpdate 38 (.map (some w.heap.size)) (.int .u8 117) (.int .u32 2048)).run Try.prog (w.alloc (.map #[] 0)) = .ok () w1 ∧
    (Instr.mapUpdate 38 (.map (some w.heap.size)) (.int .u8 103) (.int .u32 1024)).run Try.prog w1 = .ok () w2 ∧
    (Instr.lookup 38 (.map (some w.heap.size)) (.int .u8 u) false).run Try.prog w2 = .ok (.int .u32 (sbit u)) w2 ∧ Below w.heap.size w w2 := by
  have o0 := World.ownsMap_made w Try.prog 5 (plainElem (H := Unit) Try.prog 29)
  obtain ⟨w1, r1, o1, b1⟩ := step_put Try.underlying38 Try.underlying29 o0 ((Below.refl _ _).alloc (Nat.le_refl _) _) (by omega) 117 2048 (by decide) (by decide)
  obtain ⟨w2, r2, o2, b2⟩ := step_put Try.underlying38 Try.underlying29 o1 b1 (by omega) 103 1024 (by decide) (by decide)
  obtain ⟨c, hrun, hat, hwc⟩ := o2.lookup_int law5 Try.underlying38 Try.underlying29 (zero29 _) (keyOf_int_mk Try.underlying5 hu)
  refine ⟨w1, w2, r1, r2, ?_, b2⟩
  rw [hrun]
  have : c = sbit u := by
    unfold sbit
    by_cases h1 : u = 103
    · subst h1; rw [atKey_put_same o1.isMap (ik _)] at hat; cases hat; rfl
    rw [atKey_put_other (lit_ne h1)] at hat
    by_cases h0 : u = 117
    · subst h0; rw [atKey_put_same o0.isMap (ik _)] at hat; cases hat; rfl
    rw [atKey_put_other (lit_ne h0)] at hat
    have hat' : (DataW.lit (H := Unit) (.int .u32 0)) = .lit (.int .u32 c) := hat
    cases hat'
    simp [h0, h1]
  rw [this]

theorem lit38t (u : Int) (hu : (Lit.int .u8 u).wf = true) (w : World) : ∃ w1,
    (Instr.mapUpdate 38 (.map (some w.heap.size)) (.int .u8 111) (.int .u32 512)).run Try.prog (w.alloc (.map #[] 0)) = .ok () w1 ∧
    (Instr.lookup 38 (.map (some w.heap.size)) (.int .u8 u) false).run Try.prog w1 = .ok (.int .u32 (tbit u)) w1 ∧ Below w.heap.size w w1 := by
  have o0 := World.ownsMap_made w Try.prog 5 (plainElem (H := Unit) Try.prog 29)
  obtain ⟨w1, r1, o1, b1⟩ := step_put Try.underlying38 Try.underlying29 o0 ((Below.refl _ _).alloc (Nat.le_refl _) _) (by omega) 111 512 (by decide) (by decide)
  obtain ⟨c, hrun, hat, hwc⟩ := o1.lookup_int law5 Try.underlying38 Try.underlying29 (zero29 _) (keyOf_int_mk Try.underlying5 hu)
  refine ⟨w1, r1, ?_, b1⟩
  rw [hrun]
  have : c = tbit u := by
    unfold tbit
    by_cases h0 : u = 111
    · subst h0; rw [atKey_put_same o0.isMap (ik _)] at hat; cases hat; rfl
    rw [atKey_put_other (lit_ne h0)] at hat
    have hat' : (DataW.lit (H := Unit) (.int .u32 0)) = .lit (.int .u32 c) := hat
    cases hat'
    simp [h0]
  rw [this]

end Go.Proofs.Qxb6605333a
