import Derived.Test.Qxb6600572aDesc
namespace Go.Proofs.Qxb6600572a
open Go.RowKit

/-! ### cutDesc (function 13) -/
def cPid (hp lp : Bool) (pid : Int) : Int := if hp = true then (if lp = true then pid % 32768 else pid % 128) else 0
def cTl (ht : Bool) (tl : Int) : Int := if ht = true then tl else 0
def cTid (hT : Bool) (tid : Int) : Int := if hT = true then tid % 4 else 0
def cKy (hk : Bool) (ky : Int) : Int := if hk = true then ky % 32 else 0

set_option maxRecDepth 100000 in
set_option maxHeartbeats 4000000 in
theorem cut_calls (nr st hp lp ht hT ls hk : Bool) (pt pid tl tid ky : Int) (w : World) (p0 : 0 ≤ pt) (p1 : pt ≤ 255) (q0 : 0 ≤ pid) (q1 : pid ≤ 65535) (r0 : 0 ≤ tid) (r1 : tid ≤ 255) (k0 : 0 ≤ ky) (k1 : ky ≤ 255) :
    Calls Try.prog 13 #[.agg #[.bool nr, .bool st, .int .u8 pt, .bool hp, .bool lp, .int .u16 pid, .bool ht, .int .u8 tl, .bool hT, .int .u8 tid, .bool ls, .bool hk, .int .u8 ky]] w fun e w' => e = .returned (.agg #[.bool nr, .bool st, .int .u8 (pt % 8), .bool hp, .bool (hp && lp), .int .u16 (cPid hp lp pid), .bool ht, .int .u8 (cTl ht tl), .bool hT, .int .u8 (cTid hT tid), .bool (hT && ls), .bool hk, .int .u8 (cKy hk ky)]) ∧ Below w.heap.size w w' := by
  go_enter Try.func13, Try.ntmps13
  go_upto_if 15 with fail
  go_cut [] (fun wx => wx = (((w.alloc (.cells #[.bool nr, .bool st, .int .u8 pt, .bool hp, .bool lp, .int .u16 pid, .bool ht, .int .u8 tl, .bool hT, .int .u8 tid, .bool ls, .bool hk, .int .u8 ky] 24)).alloc (.cells #[.bool false, .bool false, .int .u8 0, .bool false, .bool false, .int .u16 0, .bool false, .int .u8 0, .bool false, .int .u8 0, .bool false, .bool false, .int .u8 0] 24)).alloc (.cells #[.bool nr, .bool st, .int .u8 (pt % 8), .bool hp, .bool (hp && lp), .int .u16 (cPid hp lp pid), .bool false, .int .u8 0, .bool false, .int .u8 0, .bool false, .bool false, .int .u8 0] 24)))
  case first =>
    cases hp
    · go_wp2_with fail; go_meet; rfl
    · cases lp
      all_goals (go_wp2_with fail; go_meet; rfl)
  case rest =>
  obtain rfl := hcut
  go_upto_if 31 with fail
  go_cut [] (fun wx => wx = (((w.alloc (.cells #[.bool nr, .bool st, .int .u8 pt, .bool hp, .bool lp, .int .u16 pid, .bool ht, .int .u8 tl, .bool hT, .int .u8 tid, .bool ls, .bool hk, .int .u8 ky] 24)).alloc (.cells #[.bool false, .bool false, .int .u8 0, .bool false, .bool false, .int .u16 0, .bool false, .int .u8 0, .bool false, .int .u8 0, .bool false, .bool false, .int .u8 0] 24)).alloc (.cells #[.bool nr, .bool st, .int .u8 (pt % 8), .bool hp, .bool (hp && lp), .int .u16 (cPid hp lp pid), .bool ht, .int .u8 (cTl ht tl), .bool false, .int .u8 0, .bool false, .bool false, .int .u8 0] 24)))
  case first =>
    cases ht
    all_goals (go_wp2_with fail; go_meet; rfl)
  case rest =>
  obtain rfl := hcut
  go_upto_if 37 with fail
  go_cut [] (fun wx => wx = (((w.alloc (.cells #[.bool nr, .bool st, .int .u8 pt, .bool hp, .bool lp, .int .u16 pid, .bool ht, .int .u8 tl, .bool hT, .int .u8 tid, .bool ls, .bool hk, .int .u8 ky] 24)).alloc (.cells #[.bool false, .bool false, .int .u8 0, .bool false, .bool false, .int .u16 0, .bool false, .int .u8 0, .bool false, .int .u8 0, .bool false, .bool false, .int .u8 0] 24)).alloc (.cells #[.bool nr, .bool st, .int .u8 (pt % 8), .bool hp, .bool (hp && lp), .int .u16 (cPid hp lp pid), .bool ht, .int .u8 (cTl ht tl), .bool hT, .int .u8 (cTid hT tid), .bool (hT && ls), .bool false, .int .u8 0] 24)))
  case first =>
    cases hT
    all_goals (go_wp2_with fail; go_meet; rfl)
  case rest =>
  obtain rfl := hcut
  go_upto_if 47 with fail
  go_cut [] (fun wx => wx = (((w.alloc (.cells #[.bool nr, .bool st, .int .u8 pt, .bool hp, .bool lp, .int .u16 pid, .bool ht, .int .u8 tl, .bool hT, .int .u8 tid, .bool ls, .bool hk, .int .u8 ky] 24)).alloc (.cells #[.bool false, .bool false, .int .u8 0, .bool false, .bool false, .int .u16 0, .bool false, .int .u8 0, .bool false, .int .u8 0, .bool false, .bool false, .int .u8 0] 24)).alloc (.cells #[.bool nr, .bool st, .int .u8 (pt % 8), .bool hp, .bool (hp && lp), .int .u16 (cPid hp lp pid), .bool ht, .int .u8 (cTl ht tl), .bool hT, .int .u8 (cTid hT tid), .bool (hT && ls), .bool hk, .int .u8 (cKy hk ky)] 24)))
  case first =>
    cases hk
    all_goals (go_wp2_with fail; go_meet; rfl)
  case rest =>
  obtain rfl := hcut
  go_wp2
  refine bodyPost_ret (v := .agg #[.bool nr, .bool st, .int .u8 (pt % 8), .bool hp, .bool (hp && lp), .int .u16 (cPid hp lp pid), .bool ht, .int .u8 (cTl ht tl), .bool hT, .int .u8 (cTid hT tid), .bool (hT && ls), .bool hk, .int .u8 (cKy hk ky)]) (by simp [results, Try.results13, go_sem]) rfl ⟨rfl, ?_⟩
  exact (((Below.refl _ _).alloc (Nat.le_refl _) _).alloc (by simp) _).alloc (by simp; omega) _
end Go.Proofs.Qxb6600572a
