import Derived.Test.Qxb6600572aCut
namespace Go.Proofs.Qxb6600572a
open Go.RowKit

/-- Are the two descriptors the same, field by field? -/
def eqD (nr st hp lp ht hT ls hk : Bool) (pt pid tl tid ky : Int) (nr' st' hp' lp' ht' hT' ls' hk' : Bool) (pt' pid' tl' tid' ky' : Int) : Bool := (nr == nr') && (st == st') && (pt == pt') && (hp == hp') && (lp == lp') && (pid == pid') && (ht == ht') && (tl == tl') && (hT == hT') && (tid == tid') && (ls == ls') && (hk == hk') && (ky == ky')

theorem ite_ok (p : Prop) [Decidable p] (b : Bool) (w : World) : (if p then Result.ok (Value.bool b) w else Result.ok (Value.bool false) w) = Result.ok (Value.bool (decide p && b)) w := by
  by_cases h : p <;> simp [h]

set_option maxRecDepth 100000 in
theorem run_eqD (nr st hp lp ht hT ls hk : Bool) (pt pid tl tid ky : Int) (nr' st' hp' lp' ht' hT' ls' hk' : Bool) (pt' pid' tl' tid' ky' : Int) (w : World) :
    (binOp .eql 24 (.agg #[.bool nr, .bool st, .int .u8 pt, .bool hp, .bool lp, .int .u16 pid, .bool ht, .int .u8 tl, .bool hT, .int .u8 tid, .bool ls, .bool hk, .int .u8 ky]) (.agg #[.bool nr', .bool st', .int .u8 pt', .bool hp', .bool lp', .int .u16 pid', .bool ht', .int .u8 tl', .bool hT', .int .u8 tid', .bool ls', .bool hk', .int .u8 ky'])).run Try.prog w = .ok (.bool (eqD nr st hp lp ht hT ls hk pt pid tl tid ky nr' st' hp' lp' ht' hT' ls' hk' pt' pid' tl' tid' ky')) w := by
  unfold eqD
  simp [go_sem, Try.underlying24, Try.underlying4, Try.underlying5, Try.underlying22, run_eql_struct]
  simp only [ite_ok]
  refine congrArg (fun b => Result.ok (Value.bool b) w) ?_
  rw [Bool.eq_iff_iff]
  simp only [Bool.and_eq_true, decide_eq_true_eq, beq_iff_eq, and_assoc, and_true]

/-- The cut descriptor, as a value that the walk does not open. -/
def cutV (nr st hp lp ht hT ls hk : Bool) (pt pid tl tid ky : Int) : Value := .agg #[.bool nr, .bool st, .int .u8 (pt % 8), .bool hp, .bool (hp && lp), .int .u16 (cPid hp lp pid), .bool ht, .int .u8 (cTl ht tl), .bool hT, .int .u8 (cTid hT tid), .bool (hT && ls), .bool hk, .int .u8 (cKy hk ky)]
theorem cutV_calls (nr st hp lp ht hT ls hk : Bool) (pt pid tl tid ky : Int) (w : World) (d0a : 0 ≤ pt) (d0b : pt ≤ 255) (d1a : 0 ≤ pid) (d1b : pid ≤ 65535) (d2a : 0 ≤ tid) (d2b : tid ≤ 255) (d3a : 0 ≤ ky) (d3b : ky ≤ 255) :
    Calls Try.prog 13 #[.agg #[.bool nr, .bool st, .int .u8 pt, .bool hp, .bool lp, .int .u16 pid, .bool ht, .int .u8 tl, .bool hT, .int .u8 tid, .bool ls, .bool hk, .int .u8 ky]] w fun e w' => e = .returned (cutV nr st hp lp ht hT ls hk pt pid tl tid ky) ∧ Below w.heap.size w w' := cut_calls nr st hp lp ht hT ls hk pt pid tl tid ky w d0a d0b d1a d1b d2a d2b d3a d3b
def eqCut (nr st hp lp ht hT ls hk : Bool) (pt pid tl tid ky : Int) (nr' st' hp' lp' ht' hT' ls' hk' : Bool) (pt' pid' tl' tid' ky' : Int) : Bool := eqD nr st hp (hp && lp) ht hT (hT && ls) hk (pt % 8) (cPid hp lp pid) (cTl ht tl) (cTid hT tid) (cKy hk ky) nr' st' hp' (hp' && lp') ht' hT' (hT' && ls') hk' (pt' % 8) (cPid hp' lp' pid') (cTl ht' tl') (cTid hT' tid') (cKy hk' ky')
theorem run_eqCut (nr st hp lp ht hT ls hk : Bool) (pt pid tl tid ky : Int) (nr' st' hp' lp' ht' hT' ls' hk' : Bool) (pt' pid' tl' tid' ky' : Int) (w : World) : (binOp .eql 24 (cutV nr st hp lp ht hT ls hk pt pid tl tid ky) (cutV nr' st' hp' lp' ht' hT' ls' hk' pt' pid' tl' tid' ky')).run Try.prog w = .ok (.bool (eqCut nr st hp lp ht hT ls hk pt pid tl tid ky nr' st' hp' lp' ht' hT' ls' hk' pt' pid' tl' tid' ky')) w :=
  run_eqD nr st hp (hp && lp) ht hT (hT && ls) hk (pt % 8) (cPid hp lp pid) (cTl ht tl) (cTid hT tid) (cKy hk ky) nr' st' hp' (hp' && lp') ht' hT' (hT' && ls') hk' (pt' % 8) (cPid hp' lp' pid') (cTl ht' tl') (cTid hT' tid') (cKy hk' ky') w
theorem guard24 : Try.prog.eqGuardType Try.prog.depth 24 = false := by kernel_rfl
theorem guard_cut (nr st hp lp ht hT ls hk : Bool) (pt pid tl tid ky : Int) (nr' st' hp' lp' ht' hT' ls' hk' : Bool) (pt' pid' tl' tid' ky' : Int) (x y : Operand) (w : World) : (eqGuard .eql 24 x y (cutV nr st hp lp ht hT ls hk pt pid tl tid ky) (cutV nr' st' hp' lp' ht' hT' ls' hk' pt' pid' tl' tid' ky')).run Try.prog w = .ok () w :=
  run_eqGuard_agg w .eql 24 x y _ _ guard24
end Go.Proofs.Qxb6600572a
