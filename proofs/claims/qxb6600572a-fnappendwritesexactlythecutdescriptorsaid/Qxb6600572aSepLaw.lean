import Derived.Test.Qxb6600572aEq
namespace Go.Proofs.Qxb6600572a
open Go.RowKit

theorem fst2_eq {nr st nr' st' : Bool} {pt pt' : Int} (h : fst2 nr st pt = fst2 nr' st' pt') : nr = nr' ∧ st = st' ∧ pt % 8 = pt' % 8 := by
  revert h
  cases nr <;> cases st <;> cases nr' <;> cases st' <;> simp [fst2, fst1] <;> omega
theorem ex_eq {hp ht hT hk hp' ht' hT' hk' : Bool} (h : exTo hp ht hT hk 4 = exTo hp' ht' hT' hk' 4) : hp = hp' ∧ ht = ht' ∧ hT = hT' ∧ hk = hk' := by
  revert h
  cases hp <;> cases ht <;> cases hT <;> cases hk <;> cases hp' <;> cases ht' <;> cases hT' <;> cases hk' <;> decide +kernel
theorem tb_eq {hT ls hk ls' : Bool} {tid ky tid' ky' : Int} (h : tb hT tid ls hk ky = tb hT tid' ls' hk ky') : (hT = true → tid % 4 = tid' % 4 ∧ ls = ls') ∧ (hk = true → ky % 32 = ky' % 32) := by
  revert h
  cases hT <;> cases ls <;> cases hk <;> cases ls' <;> simp [tb] <;> omega
theorem pid_eq {lp lp' : Bool} {pid pid' : Int} {A B : List Int} (h : pidL true lp pid ++ A = pidL true lp' pid' ++ B) : lp = lp' ∧ cPid true lp pid = cPid true lp' pid' ∧ A = B := by
  revert h
  cases lp <;> cases lp' <;> simp [pidL, cPid]
  · intro h1 h2; omega
  · intro h1 h2; omega
  · intro h1 h2 h3; exact ⟨by omega, h3⟩
theorem tl_eq {ht : Bool} {tl tl' : Int} {A B : List Int} (h : tlL ht tl ++ A = tlL ht tl' ++ B) : cTl ht tl = cTl ht tl' ∧ A = B := by
  revert h
  cases ht <;> simp [tlL, cTl]
theorem t_eq {hT ls hk ls' : Bool} {tid ky tid' ky' : Int} (h : tL hT tid ls hk ky = tL hT tid' ls' hk ky') : cTid hT tid = cTid hT tid' ∧ (hT && ls) = (hT && ls') ∧ cKy hk ky = cKy hk ky' := by
  by_cases hf : (hT || hk) = true
  · unfold tL at h
    rw [if_pos hf, if_pos hf] at h
    obtain ⟨h1, h2⟩ := tb_eq (List.cons.inj h).1
    refine ⟨?_, ?_, ?_⟩
    · unfold cTid; cases hT with
      | false => rfl
      | true => simpa using (h1 rfl).1
    · cases hT with
      | false => rfl
      | true => simpa using (h1 rfl).2
    · unfold cKy; cases hk with
      | false => rfl
      | true => simpa using h2 rfl
  · have h1 : hT = false := by cases hT <;> simp_all
    have h2 : hk = false := by cases hk <;> simp_all
    subst h1; subst h2
    exact ⟨rfl, rfl, rfl⟩

theorem eqCut_iff (nr st hp lp ht hT ls hk : Bool) (pt pid tl tid ky : Int) (nr' st' hp' lp' ht' hT' ls' hk' : Bool) (pt' pid' tl' tid' ky' : Int) : eqCut nr st hp lp ht hT ls hk pt pid tl tid ky nr' st' hp' lp' ht' hT' ls' hk' pt' pid' tl' tid' ky' = true ↔
    nr = nr' ∧ st = st' ∧ pt % 8 = pt' % 8 ∧ hp = hp' ∧ (hp && lp) = (hp' && lp') ∧ cPid hp lp pid = cPid hp' lp' pid' ∧ ht = ht' ∧ cTl ht tl = cTl ht' tl' ∧ hT = hT' ∧ cTid hT tid = cTid hT' tid' ∧ (hT && ls) = (hT' && ls') ∧ hk = hk' ∧ cKy hk ky = cKy hk' ky' := by
  unfold eqCut eqD
  simp only [Bool.and_eq_true, beq_iff_eq, and_assoc]

/-- THE PLAIN LAW: two descriptors are written as the same bytes just when they agree on all that the wire carries. -/
theorem sep_iff (nr st hp lp ht hT ls hk : Bool) (pt pid tl tid ky : Int) (nr' st' hp' lp' ht' hT' ls' hk' : Bool) (pt' pid' tl' tid' ky' : Int) : bytesOf nr st pt hp lp pid ht tl hT tid ls hk ky = bytesOf nr' st' pt' hp' lp' pid' ht' tl' hT' tid' ls' hk' ky' ↔ eqCut nr st hp lp ht hT ls hk pt pid tl tid ky nr' st' hp' lp' ht' hT' ls' hk' pt' pid' tl' tid' ky' = true := by
  rw [eqCut_iff]
  constructor
  · intro h
    unfold bytesOf at h
    by_cases z1 : exTo hp ht hT hk 4 = 0
    · rw [if_pos z1] at h
      by_cases z2 : exTo hp' ht' hT' hk' 4 = 0
      · rw [if_pos z2] at h
        obtain ⟨a, b, c⟩ := fst2_eq (List.cons.inj h).1
        obtain ⟨rfl, rfl, rfl, rfl⟩ := ex_zero z1
        obtain ⟨rfl, rfl, rfl, rfl⟩ := ex_zero z2
        exact ⟨a, b, c, rfl, rfl, rfl, rfl, rfl, rfl, rfl, rfl, rfl, rfl⟩
      · rw [if_neg z2] at h
        have := congrArg List.length h
        simp only [List.length_append, List.length_cons, List.length_nil] at this
        omega
    · rw [if_neg z1] at h
      by_cases z2 : exTo hp' ht' hT' hk' 4 = 0
      · rw [if_pos z2] at h
        have := congrArg List.length h
        simp only [List.length_append, List.length_cons, List.length_nil] at this
        omega
      · rw [if_neg z2] at h
        simp only [List.cons_append, List.nil_append, List.append_assoc] at h
        obtain ⟨h1, h2⟩ := List.cons.inj h
        obtain ⟨h3, h4⟩ := List.cons.inj h2
        obtain ⟨a, b, c⟩ := fst2_eq (by omega : fst2 nr st pt = fst2 nr' st' pt')
        obtain ⟨rfl, rfl, rfl, rfl⟩ := ex_eq h3
        have hpq : (hp && lp) = (hp && lp') ∧ cPid hp lp pid = cPid hp lp' pid' ∧ tlL ht tl ++ tL hT tid ls hk ky = tlL ht tl' ++ tL hT tid' ls' hk ky' := by
          cases hp with
          | false => exact ⟨rfl, rfl, by simpa [pidL] using h4⟩
          | true =>
            obtain ⟨x, y, z⟩ := pid_eq h4
            exact ⟨by rw [x], y, z⟩
        obtain ⟨p1, p2, p3⟩ := hpq
        obtain ⟨q1, q2⟩ := tl_eq p3
        obtain ⟨r1, r2, r3⟩ := t_eq q2
        exact ⟨a, b, c, rfl, p1, p2, rfl, q1, rfl, r1, r2, rfl, r3⟩
  · rintro ⟨rfl, rfl, hpt, rfl, hlp, hpid, rfl, htl, rfl, htid, hls, rfl, hky⟩
    have e1 : fst2 nr st pt = fst2 nr st pt' := by unfold fst2 fst1; rw [hpt]
    have e2 : pidL hp lp pid = pidL hp lp' pid' := by
      cases hp with
      | false => rfl
      | true =>
        have : lp = lp' := by simpa using hlp
        subst this
        cases lp with
        | false => simp only [cPid] at hpid; simp [pidL] at *; omega
        | true => simp only [cPid] at hpid; simp [pidL] at *; omega
    have e3 : tlL ht tl = tlL ht tl' := by
      cases ht with
      | false => rfl
      | true => simpa [cTl, tlL] using htl
    have e4 : tL hT tid ls hk ky = tL hT tid' ls' hk ky' := by
      have t1 : tb hT tid ls hk ky = tb hT tid' ls' hk ky' := by
        cases hT <;> cases hk <;> simp [tb, cTid, cKy] at * <;> (try subst hls) <;> (try omega) <;> simp_all
      unfold tL
      rw [t1]
    unfold bytesOf
    rw [e1, e2, e3, e4]

end Go.Proofs.Qxb6600572a
