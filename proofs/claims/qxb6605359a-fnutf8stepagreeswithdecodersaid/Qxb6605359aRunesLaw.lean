import Derived.Test.Qxb6605359aRunesWalk
namespace Go.Proofs.Qxb6605359a
open Go.RowKit

/-! ### the forms of the bytes -/
theorem bf_ascii {b : Int} (h : b < 128) : bf b = 0 := by unfold bf; rw [if_pos h]
theorem bf_c (b : Int) (h0 : 128 ≤ b) (h1 : b ≤ 191) : bf b = if b = 128 then 1 else if b ≤ 143 then 2 else if b ≤ 159 then 3 else if b = 168 ∨ b = 169 then 5 else 4 := by
  unfold bf
  rw [if_neg (by omega), if_pos h1]
theorem c_all {b : Int} (h0 : 128 ≤ b) (h1 : b ≤ 191) : 1 ≤ bf b ∧ bf b ≤ 5 := by
  rw [bf_c b h0 h1]; repeat' split; all_goals omega
theorem c_128 : bf 128 = 1 := by decide
theorem c_not128 {b : Int} (h0 : 129 ≤ b) (h1 : b ≤ 191) : 2 ≤ bf b ∧ bf b ≤ 5 := by
  rw [bf_c b (by omega) h1]; rw [if_neg (by omega)]; repeat' split; all_goals omega
theorem c_ge144 {b : Int} (h0 : 144 ≤ b) (h1 : b ≤ 191) : 3 ≤ bf b ∧ bf b ≤ 5 := by
  rw [bf_c b (by omega) h1]; rw [if_neg (by omega), if_neg (by omega)]; repeat' split; all_goals omega
theorem c_ge160 {b : Int} (h0 : 160 ≤ b) (h1 : b ≤ 191) : 4 ≤ bf b ∧ bf b ≤ 5 := by
  rw [bf_c b (by omega) h1]; rw [if_neg (by omega), if_neg (by omega), if_neg (by omega)]; repeat' split; all_goals omega
theorem c_le143 {b : Int} (h0 : 128 ≤ b) (h1 : b ≤ 143) : 1 ≤ bf b ∧ bf b ≤ 2 := by
  rw [bf_c b (by omega) (by omega)]; repeat' split; all_goals omega
theorem c_le159 {b : Int} (h0 : 128 ≤ b) (h1 : b ≤ 159) : 1 ≤ bf b ∧ bf b ≤ 3 := by
  rw [bf_c b (by omega) (by omega)]; repeat' split; all_goals omega
theorem c_not5 {b : Int} (h0 : 128 ≤ b) (h1 : b ≤ 191) (h : b ≠ 168 ∧ b ≠ 169) : 1 ≤ bf b ∧ bf b ≤ 4 := by
  rw [bf_c b (by omega) (by omega)]; repeat' split; all_goals omega
theorem lead2 {b : Int} (h0 : 194 ≤ b) (h1 : b ≤ 223) : bf b = 6 := by
  unfold bf; rw [if_neg (by omega), if_neg (by omega), if_neg (by omega), if_neg (by omega), if_neg (by omega), if_neg (by omega), if_neg (by omega), if_pos (by omega)]
theorem lead3 {b : Int} (h0 : 225 ≤ b) (h1 : b ≤ 239) (h2 : b ≠ 226 ∧ b ≠ 237) : bf b = 7 := by
  unfold bf; rw [if_neg (by omega), if_neg (by omega), if_neg (by omega), if_neg (by omega), if_neg (by omega), if_neg (by omega), if_neg (by omega), if_neg (by omega), if_neg (by omega), if_neg (by omega), if_neg (by omega), if_pos (by omega)]
theorem lead4 {b : Int} (h0 : 241 ≤ b) (h1 : b ≤ 243) : bf b = 11 := by
  unfold bf; rw [if_neg (by omega), if_neg (by omega), if_neg (by omega), if_neg (by omega), if_neg (by omega), if_neg (by omega), if_neg (by omega), if_neg (by omega), if_neg (by omega), if_neg (by omega), if_neg (by omega), if_neg (by omega), if_neg (by omega), if_neg (by omega), if_pos (by omega)]
theorem lead5 {b : Int} (h0 : 245 ≤ b) : bf b = 14 := by
  unfold bf; repeat rw [if_neg (by omega)]

/-! ### the steps from each state at a following byte's form -/
theorem five {f : Int} (h : 1 ≤ f ∧ f ≤ 5) : f = 1 ∨ f = 2 ∨ f = 3 ∨ f = 4 ∨ f = 5 := by omega
theorem t0 {f : Int} (h : 1 ≤ f ∧ f ≤ 5) : usTo 0 f = 0 ∧ usEx 0 f = 5 := by rcases five h with rfl | rfl | rfl | rfl | rfl <;> decide
theorem t1 {f : Int} (h : 1 ≤ f ∧ f ≤ 5) : usTo 1 f = 0 ∧ usEx 1 f = 0 := by rcases five h with rfl | rfl | rfl | rfl | rfl <;> decide
theorem t2 {f : Int} (h : 1 ≤ f ∧ f ≤ 5) : usTo 2 f = 6 ∧ usEx 2 f = 0 := by rcases five h with rfl | rfl | rfl | rfl | rfl <;> decide
theorem t3 {f : Int} (h : 4 ≤ f ∧ f ≤ 5) : usTo 3 f = 6 ∧ usEx 3 f = 0 := by rcases (by omega : f = 4 ∨ f = 5) with rfl | rfl <;> decide
theorem t4 {f : Int} (h : 2 ≤ f ∧ f ≤ 5) : usTo 4 f = 6 ∧ usEx 4 f = 0 := by rcases (by omega : f = 2 ∨ f = 3 ∨ f = 4 ∨ f = 5) with rfl | rfl | rfl | rfl <;> decide
theorem t4' : usTo 4 1 = 7 ∧ usEx 4 1 = 0 := by decide
theorem t5 {f : Int} (h : 1 ≤ f ∧ f ≤ 3) : usTo 5 f = 6 ∧ usEx 5 f = 0 := by rcases (by omega : f = 1 ∨ f = 2 ∨ f = 3) with rfl | rfl | rfl <;> decide
theorem t5' {f : Int} (h : 4 ≤ f ∧ f ≤ 5) : usTo 5 f = 0 ∧ usEx 5 f = 10 := by rcases (by omega : f = 4 ∨ f = 5) with rfl | rfl <;> decide
theorem t6 {f : Int} (h : 1 ≤ f ∧ f ≤ 5) : usTo 6 f = 0 ∧ usEx 6 f = 0 := by rcases five h with rfl | rfl | rfl | rfl | rfl <;> decide
theorem t7 {f : Int} (h : 1 ≤ f ∧ f ≤ 4) : usTo 7 f = 0 ∧ usEx 7 f = 0 := by rcases (by omega : f = 1 ∨ f = 2 ∨ f = 3 ∨ f = 4) with rfl | rfl | rfl | rfl <;> decide
theorem t7' : usTo 7 5 = 0 ∧ usEx 7 5 = 3 := by decide
theorem t8 {f : Int} (h : 1 ≤ f ∧ f ≤ 5) : usTo 8 f = 11 ∧ usEx 8 f = 0 := by rcases five h with rfl | rfl | rfl | rfl | rfl <;> decide
theorem t9 {f : Int} (h : 3 ≤ f ∧ f ≤ 5) : usTo 9 f = 11 ∧ usEx 9 f = 0 := by rcases (by omega : f = 3 ∨ f = 4 ∨ f = 5) with rfl | rfl | rfl <;> decide
theorem t10 {f : Int} (h : 1 ≤ f ∧ f ≤ 2) : usTo 10 f = 11 ∧ usEx 10 f = 0 := by rcases (by omega : f = 1 ∨ f = 2) with rfl | rfl <;> decide
theorem t10' {f : Int} (h : 3 ≤ f ∧ f ≤ 5) : usTo 10 f = 0 ∧ usEx 10 f = 10 := by rcases (by omega : f = 3 ∨ f = 4 ∨ f = 5) with rfl | rfl | rfl <;> decide
theorem t11 {f : Int} (h : 1 ≤ f ∧ f ≤ 5) : usTo 11 f = 12 ∧ usEx 11 f = 0 := by rcases five h with rfl | rfl | rfl | rfl | rfl <;> decide
theorem t12 {f : Int} (h : 1 ≤ f ∧ f ≤ 5) : usTo 12 f = 0 ∧ usEx 12 f = 0 := by rcases five h with rfl | rfl | rfl | rfl | rfl <;> decide
theorem t00 : usTo 0 0 = 0 ∧ usEx 0 0 = 0 := by decide

/-! ### a way over the bytes, put together -/
theorem way1 {b0 : Int} (b1 b2 b3 : Int) {s x : Int} (h : usTo 0 (bf b0) = s ∧ usEx 0 (bf b0) = x) : Sk (bAt b0 b1 b2 b3) 1 = s ∧ Tk (bAt b0 b1 b2 b3) 1 = x :=
  ⟨h.1, by show 0 + usEx 0 (bf b0) = x; rw [h.2]; omega⟩
theorem way2 {b0 b1 : Int} (b2 b3 : Int) {s x s' x' : Int} (h : Sk (bAt b0 b1 b2 b3) 1 = s ∧ Tk (bAt b0 b1 b2 b3) 1 = x) (g : usTo s (bf b1) = s' ∧ usEx s (bf b1) = x') : Sk (bAt b0 b1 b2 b3) 2 = s' ∧ Tk (bAt b0 b1 b2 b3) 2 = x + x' :=
  ⟨by show usTo (Sk (bAt b0 b1 b2 b3) 1) (bf b1) = s'; rw [h.1]; exact g.1, by show Tk (bAt b0 b1 b2 b3) 1 + usEx (Sk (bAt b0 b1 b2 b3) 1) (bf b1) = _; rw [h.1, h.2, g.2]⟩
theorem way3 {b0 b1 b2 : Int} (b3 : Int) {s x s' x' : Int} (h : Sk (bAt b0 b1 b2 b3) 2 = s ∧ Tk (bAt b0 b1 b2 b3) 2 = x) (g : usTo s (bf b2) = s' ∧ usEx s (bf b2) = x') : Sk (bAt b0 b1 b2 b3) 3 = s' ∧ Tk (bAt b0 b1 b2 b3) 3 = x + x' :=
  ⟨by show usTo (Sk (bAt b0 b1 b2 b3) 2) (bf b2) = s'; rw [h.1]; exact g.1, by show Tk (bAt b0 b1 b2 b3) 2 + usEx (Sk (bAt b0 b1 b2 b3) 2) (bf b2) = _; rw [h.1, h.2, g.2]⟩
theorem way4 {b0 b1 b2 b3 : Int} {s x s' x' : Int} (h : Sk (bAt b0 b1 b2 b3) 3 = s ∧ Tk (bAt b0 b1 b2 b3) 3 = x) (g : usTo s (bf b3) = s' ∧ usEx s (bf b3) = x') : Sk (bAt b0 b1 b2 b3) 4 = s' ∧ Tk (bAt b0 b1 b2 b3) 4 = x + x' :=
  ⟨by show usTo (Sk (bAt b0 b1 b2 b3) 3) (bf b3) = s'; rw [h.1]; exact g.1, by show Tk (bAt b0 b1 b2 b3) 3 + usEx (Sk (bAt b0 b1 b2 b3) 3) (bf b3) = _; rw [h.1, h.2, g.2]⟩

/-- What the walk asks at the end of the bytes. -/
def Ends (b : Nat → Int) (n : Nat) (want : Int) : Prop := usTo (Sk b n) 0 = 0 ∧ Tk b n + usEx (Sk b n) 0 = want
theorem ends_of {b : Nat → Int} {n : Nat} {want : Int} (h : Sk b n = 0 ∧ Tk b n = want) : Ends b n want :=
  ⟨by rw [h.1]; exact t00.1, by rw [h.1, h.2, t00.2]; omega⟩
/-- What it asks on the way. -/
def OnWay (b0 b1 b2 b3 : Int) (n : Nat) : Prop :=
  (∀ k, k + 1 < n → Sk (bAt b0 b1 b2 b3) (k + 1) = sOf b0 b1 ((k : Int) + 1) ∧ usEx (Sk (bAt b0 b1 b2 b3) k) (bf (bAt b0 b1 b2 b3 k)) = 0) ∧ (∀ k, k + 1 = n → Sk (bAt b0 b1 b2 b3) (k + 1) = 0)

theorem onway1 {b0 b1 b2 b3 : Int} (h : Sk (bAt b0 b1 b2 b3) 1 = 0) : OnWay b0 b1 b2 b3 1 := by
  refine ⟨fun k hk => absurd hk (by omega), fun k hk => ?_⟩
  obtain rfl : k = 0 := by omega
  exact h
theorem onway2 {b0 b1 b2 b3 : Int} (h1 : Sk (bAt b0 b1 b2 b3) 1 = sOf b0 b1 1) (x1 : usEx 0 (bf b0) = 0) (h2 : Sk (bAt b0 b1 b2 b3) 2 = 0) : OnWay b0 b1 b2 b3 2 := by
  refine ⟨fun k hk => ?_, fun k hk => ?_⟩
  · obtain rfl : k = 0 := by omega
    exact ⟨h1, x1⟩
  · obtain rfl : k = 1 := by omega
    exact h2
theorem onway3 {b0 b1 b2 b3 s : Int} (h1 : Sk (bAt b0 b1 b2 b3) 1 = s) (g1 : s = sOf b0 b1 1) (x1 : usEx 0 (bf b0) = 0) (h2 : Sk (bAt b0 b1 b2 b3) 2 = sOf b0 b1 2) (x2 : usEx s (bf b1) = 0) (h3 : Sk (bAt b0 b1 b2 b3) 3 = 0) : OnWay b0 b1 b2 b3 3 := by
  refine ⟨fun k hk => ?_, fun k hk => ?_⟩
  · rcases (by omega : k = 0 ∨ k = 1) with rfl | rfl
    · exact ⟨h1.trans g1, x1⟩
    · exact ⟨h2, by rw [h1]; exact x2⟩
  · obtain rfl : k = 2 := by omega
    exact h3
theorem onway4 {b0 b1 b2 b3 s t : Int} (h1 : Sk (bAt b0 b1 b2 b3) 1 = s) (g1 : s = sOf b0 b1 1) (x1 : usEx 0 (bf b0) = 0) (h2 : Sk (bAt b0 b1 b2 b3) 2 = t) (g2 : t = sOf b0 b1 2) (x2 : usEx s (bf b1) = 0)
    (h3 : Sk (bAt b0 b1 b2 b3) 3 = 12) (x3 : usEx t (bf b2) = 0) (h4 : Sk (bAt b0 b1 b2 b3) 4 = 0) : OnWay b0 b1 b2 b3 4 := by
  refine ⟨fun k hk => ?_, fun k hk => ?_⟩
  · rcases (by omega : k = 0 ∨ k = 1 ∨ k = 2) with rfl | rfl | rfl
    · exact ⟨h1.trans g1, x1⟩
    · exact ⟨h2.trans g2, by rw [h1]; exact x2⟩
    · exact ⟨h3, by rw [h2]; exact x3⟩
  · obtain rfl : k = 3 := by omega
    exact h4

/-! ### the law, by the length -/
theorem sOf_1 (p q : Int) : sOf p q 1 = s1 p := by unfold sOf; rw [if_pos rfl]
theorem sOf_2lo {p q : Int} (h : p < 240) (hn : p ≠ 226 ∨ q ≠ 128) : sOf p q 2 = 6 := by unfold sOf; rw [if_neg (by omega), if_pos rfl, if_neg (by omega), if_neg (by omega)]
theorem sOf_2hi {p q : Int} (h : 240 ≤ p) : sOf p q 2 = 11 := by unfold sOf; rw [if_neg (by omega), if_pos rfl, if_pos h]
theorem s1_lead2 {p : Int} (h0 : 194 ≤ p) (h1 : p ≤ 223) : s1 p = 1 := by unfold s1; rw [if_pos (by omega)]
theorem s1_lead3 {p : Int} (h0 : 225 ≤ p) (h1 : p ≤ 239) (h2 : p ≠ 226 ∧ p ≠ 237) : s1 p = 2 := by unfold s1; rw [if_neg (by omega), if_neg (by omega), if_neg (by omega), if_neg (by omega), if_pos (by omega)]
theorem s1_lead4 {p : Int} (h0 : 241 ≤ p) (h1 : p ≤ 243) : s1 p = 8 := by unfold s1; rw [if_neg (by omega), if_neg (by omega), if_neg (by omega), if_neg (by omega), if_neg (by omega), if_neg (by omega), if_neg (by omega), if_pos (by omega)]

theorem law1 (r : Int) (h1 : r < 128) : Ends (bAt r 0 0 0) 1 0 ∧ OnWay r 0 0 0 1 := by
  have a := way1 (b0 := r) 0 0 0 (by rw [bf_ascii h1]; exact t00)
  exact ⟨ends_of a, onway1 a.1⟩

theorem law2 (p q : Int) (h0 : 194 ≤ p) (h1 : p ≤ 223) (g0 : 128 ≤ q) (g1 : q ≤ 191) : Ends (bAt p q 0 0) 2 0 ∧ OnWay p q 0 0 2 := by
  have f0 := lead2 h0 h1
  have u : usTo 0 6 = 1 ∧ usEx 0 6 = 0 := by decide
  have a := way1 (b0 := p) q 0 0 (by rw [f0]; exact u)
  have b := way2 0 0 a (t1 (c_all g0 g1))
  exact ⟨ends_of b, onway2 (by rw [a.1, sOf_1, s1_lead2 h0 h1]) (by rw [f0]; exact u.2) b.1⟩

theorem law3 (p q t : Int) (h0 : 224 ≤ p) (h1 : p ≤ 239) (g0 : 128 ≤ q) (g1 : q ≤ 191) (k0 : 128 ≤ t) (k1 : t ≤ 191) (hE : p = 224 → 160 ≤ q) (hD : p = 237 → q ≤ 159) :
    Ends (bAt p q t 0) 3 (if p = 226 ∧ q = 128 ∧ (t = 168 ∨ t = 169) then 3 else 0) ∧ OnWay p q t 0 3 := by
  by_cases c1 : p = 224
  · subst c1
    have u : usTo 0 (bf 224) = 3 ∧ usEx 0 (bf 224) = 0 := by decide
    have a := way1 (b0 := 224) q t 0 u
    have v := t3 (c_ge160 (hE rfl) g1)
    have b := way2 t 0 a v
    have c := way3 0 b (t6 (c_all k0 k1))
    rw [if_neg (by omega)]
    exact ⟨ends_of c, onway3 a.1 rfl u.2 (by rw [b.1, sOf_2lo (by omega) (by omega)]) v.2 c.1⟩
  by_cases c2 : p = 237
  · subst c2
    have u : usTo 0 (bf 237) = 5 ∧ usEx 0 (bf 237) = 0 := by decide
    have a := way1 (b0 := 237) q t 0 u
    have v := t5 (c_le159 g0 (hD rfl))
    have b := way2 t 0 a v
    have c := way3 0 b (t6 (c_all k0 k1))
    rw [if_neg (by omega)]
    exact ⟨ends_of c, onway3 a.1 rfl u.2 (by rw [b.1, sOf_2lo (by omega) (by omega)]) v.2 c.1⟩
  by_cases c3 : p = 226
  · subst c3
    have u : usTo 0 (bf 226) = 4 ∧ usEx 0 (bf 226) = 0 := by decide
    have a := way1 (b0 := 226) q t 0 u
    by_cases d : q = 128
    · subst d
      have v : usTo 4 (bf 128) = 7 ∧ usEx 4 (bf 128) = 0 := t4'
      have b := way2 t 0 a v
      by_cases e : t = 168 ∨ t = 169
      · have x : usTo 7 (bf t) = 0 ∧ usEx 7 (bf t) = 3 := by rcases e with rfl | rfl <;> decide
        have c := way3 0 b x
        rw [if_pos ⟨rfl, rfl, e⟩]
        exact ⟨ends_of c, onway3 a.1 rfl u.2 (by rw [b.1]; rfl) v.2 c.1⟩
      · have c := way3 0 b (t7 (c_not5 k0 k1 (by omega)))
        rw [if_neg (by omega)]
        exact ⟨ends_of c, onway3 a.1 rfl u.2 (by rw [b.1]; rfl) v.2 c.1⟩
    · have v := t4 (c_not128 (b := q) (by omega) g1)
      have b := way2 t 0 a v
      have c := way3 0 b (t6 (c_all k0 k1))
      rw [if_neg (by omega)]
      exact ⟨ends_of c, onway3 a.1 rfl u.2 (by rw [b.1, sOf_2lo (by omega) (by omega)]) v.2 c.1⟩
  · have f0 := lead3 (b := p) (by omega) h1 (by omega)
    have u : usTo 0 7 = 2 ∧ usEx 0 7 = 0 := by decide
    have a := way1 (b0 := p) q t 0 (by rw [f0]; exact u)
    have v := t2 (c_all g0 g1)
    have b := way2 t 0 a v
    have c := way3 0 b (t6 (c_all k0 k1))
    rw [if_neg (by omega)]
    exact ⟨ends_of c, onway3 a.1 (by rw [sOf_1, s1_lead3 (by omega) h1 (by omega)]) (by rw [f0]; exact u.2) (by rw [b.1, sOf_2lo (by omega) (by omega)]) v.2 c.1⟩

theorem law3s (q t : Int) (g0 : 160 ≤ q) (g1 : q ≤ 191) (k0 : 128 ≤ t) (k1 : t ≤ 191) : Ends (bAt 237 q t 0) 3 15 := by
  have u : usTo 0 (bf 237) = 5 ∧ usEx 0 (bf 237) = 0 := by decide
  have a := way1 (b0 := 237) q t 0 u
  have b := way2 t 0 a (t5' (c_ge160 g0 g1))
  exact ends_of (way3 0 b (t0 (c_all k0 k1)))

theorem law4 (p q t v : Int) (h0 : 240 ≤ p) (h1 : p ≤ 244) (g0 : 128 ≤ q) (g1 : q ≤ 191) (k0 : 128 ≤ t) (k1 : t ≤ 191) (m0 : 128 ≤ v) (m1 : v ≤ 191) (hE : p = 240 → 144 ≤ q) (hD : p = 244 → q ≤ 143) :
    Ends (bAt p q t v) 4 0 ∧ OnWay p q t v 4 := by
  by_cases c1 : p = 240
  · subst c1
    have u : usTo 0 (bf 240) = 9 ∧ usEx 0 (bf 240) = 0 := by decide
    have a := way1 (b0 := 240) q t v u
    have y := t9 (c_ge144 (hE rfl) g1)
    have b := way2 t v a y
    have z := t11 (c_all k0 k1)
    have c := way3 v b z
    have d := way4 c (t12 (c_all m0 m1))
    exact ⟨ends_of d, onway4 a.1 rfl u.2 b.1 (sOf_2hi (by omega)).symm y.2 c.1 z.2 d.1⟩
  by_cases c2 : p = 244
  · subst c2
    have u : usTo 0 (bf 244) = 10 ∧ usEx 0 (bf 244) = 0 := by decide
    have a := way1 (b0 := 244) q t v u
    have y := t10 (c_le143 g0 (hD rfl))
    have b := way2 t v a y
    have z := t11 (c_all k0 k1)
    have c := way3 v b z
    have d := way4 c (t12 (c_all m0 m1))
    exact ⟨ends_of d, onway4 a.1 rfl u.2 b.1 (sOf_2hi (by omega)).symm y.2 c.1 z.2 d.1⟩
  have f0 := lead4 (b := p) (by omega) (by omega)
  have u : usTo 0 11 = 8 ∧ usEx 0 11 = 0 := by decide
  have a := way1 (b0 := p) q t v (by rw [f0]; exact u)
  have y := t8 (c_all g0 g1)
  have b := way2 t v a y
  have z := t11 (c_all k0 k1)
  have c := way3 v b z
  have d := way4 c (t12 (c_all m0 m1))
  exact ⟨ends_of d, onway4 a.1 (by rw [sOf_1, s1_lead4 (by omega) (by omega)]) (by rw [f0]; exact u.2) b.1 (sOf_2hi (by omega)).symm y.2 c.1 z.2 d.1⟩

theorem law4x (p q t v : Int) (h0 : 244 ≤ p) (g0 : 128 ≤ q) (g1 : q ≤ 191) (k0 : 128 ≤ t) (k1 : t ≤ 191) (m0 : 128 ≤ v) (m1 : v ≤ 191) (hD : p = 244 → 144 ≤ q) : Ends (bAt p q t v) 4 20 := by
  by_cases c1 : p = 244
  · subst c1
    have u : usTo 0 (bf 244) = 10 ∧ usEx 0 (bf 244) = 0 := by decide
    have a := way1 (b0 := 244) q t v u
    have b := way2 t v a (t10' (c_ge144 (hD rfl) g1))
    have c := way3 v b (t0 (c_all k0 k1))
    exact ends_of (way4 c (t0 (c_all m0 m1)))
  have f0 := lead5 (b := p) (by omega)
  have u : usTo 0 14 = 0 ∧ usEx 0 14 = 5 := by decide
  have a := way1 (b0 := p) q t v (by rw [f0]; exact u)
  have b := way2 t v a (t0 (c_all g0 g1))
  have c := way3 v b (t0 (c_all k0 k1))
  exact ends_of (way4 c (t0 (c_all m0 m1)))

end Go.Proofs.Qxb6605359a
