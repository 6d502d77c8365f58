/-
  'Rows.FnSymbolicBitsUnionOverConcatenationSaid', PROVED. The frame is the seat's shell; its walk's end is said by 'Below', not by 'Grown': the conversion '[]byte(perms)' lays a block that bears the mark of a conversion's row.
-/
import Derived.Test.Qxb6605333aRows
import Derived.WalkKit
import Derived.ProofKit
import Derived.OpenShut
import Derived.ShutString
import Derived.ChangeOld
import Derived.Below
import Derived.Test.Qxb6605333aSymWalk
namespace Go.Proofs.Qxb6605333a.fnSymbolicBitsUnionOverConcatenation
open Go.ChangeShapes Go.WideShapes Go.ChangeAt Go.RowKit
open Go.ChangeMaps (open_string shut_string)
set_option linter.unusedVariables false

theorem own : ownKnob Try.prog.godebug = none := by kernel_rfl

theorem shift_calls (u : Int) (w : World) : Calls Try.prog 14 #[.int .u8 u] w fun e w' => e = .returned (.int .u64 (sh u)) ∧ w' = w := by
  by_cases h1 : u = 117
  · subst h1
    go_enter Try.func14, Try.ntmps14
    go_wp2
    go_ret
    exact ⟨rfl, rfl⟩
  by_cases h2 : u = 103
  · subst h2
    go_enter Try.func14, Try.ntmps14
    go_wp2
    go_ret
    exact ⟨rfl, rfl⟩
  have t1 : (u == 117) = false := by simp [h1]
  have t2 : (u == 103) = false := by simp [h2]
  have e : sh u = 0 := by unfold sh; rw [if_neg h1, if_neg h2]
  rw [e]
  clear h1 h2 e
  go_enter Try.func14, Try.ntmps14
  go_wp2
  go_ret
  exact ⟨rfl, rfl⟩

theorem zz_calls (u : Int) (s : ByteArray) (perm um : Int) (dir inU : Bool) (hu : (Lit.int .u8 u).wf = true) (hs : s.size ≤ 1048576) (w : World) :
    Calls Try.prog 13 #[.int .u8 u, .string s, .int .u32 perm, .bool dir, .bool inU, .int .u32 um] w fun e w' => e = .returned (.int .u32 (symL (gb u perm um dir inU) s.data.toList)) ∧ Below w.heap.size w w' := by
  go_enter Try.func13, Try.ntmps13
  go_wp2_with fail
  refine (sym_calls u s perm um dir inU hu hs _).mono ?_
  rintro e w' ⟨rfl, hb⟩
  go_wp2
  go_ret
  exact ⟨rfl, hb⟩

theorem bytes_calls (a0 : Int) (a1 a2 : ByteArray) (a3 : Int) (a4 a5 : Bool) (a6 : Int) (w1 : a1.size ≤ maxLen) (w2 : a2.size ≤ maxLen) (w : World) :
    Calls Try.prog 12 #[.int .u8 a0, .string a1, .string a2, .int .u32 a3, .bool a4, .bool a5, .int .u32 a6] w fun e w' => e = .returned (.bool (decide (a1.size + a2.size ≤ 1048576))) ∧ w' = w := by
  unfold maxLen at w1 w2
  by_cases h1 : a1.size ≤ 1048576
  · by_cases h2 : a2.size ≤ 1048576
    · by_cases h3 : a1.size + a2.size ≤ 1048576
      · rw [decide_eq_true h3]
        go_enter Try.func12, Try.ntmps12
        go_wp2
        go_ret
        exact ⟨rfl, rfl⟩
      · rw [decide_eq_false h3]
        go_enter Try.func12, Try.ntmps12
        go_wp2
        go_ret
        exact ⟨rfl, rfl⟩
    · rw [decide_eq_false (by omega)]
      go_enter Try.func12, Try.ntmps12
      go_wp2
      go_ret
      exact ⟨rfl, rfl⟩
  · rw [decide_eq_false (by omega)]
    go_enter Try.func12, Try.ntmps12
    go_wp2
    go_ret
    exact ⟨rfl, rfl⟩

theorem walk (a0 : Int) (a1 : ByteArray) (a2 : ByteArray) (a3 : Int) (a4 : Bool) (a5 : Bool) (a6 : Int) (w0 : (Lit.int .u8 a0).wf = true) (w1 : a1.size ≤ maxLen) (w2 : a2.size ≤ maxLen) (w3 : (Lit.int .u32 a3).wf = true) (w6 : (Lit.int .u32 a6).wf = true) (w : World) :
    Calls Try.prog 5 #[.int .u8 a0, .string a1, .string a2, .int .u32 a3, .bool a4, .bool a5, .int .u32 a6] w fun e w' => e = .returned (.bool true) ∧ Below w.heap.size w w' := by
  by_cases h : a1.size + a2.size ≤ 1048576
  · have hd : decide (a1.size + a2.size ≤ 1048576) = true := decide_eq_true h
    by_cases ha : a1.size ≤ 524288
    · by_cases hb : a2.size ≤ 524288
      · have da : decide ((524288 : Int) < (a1.size : Int)) = false := decide_eq_false (by omega)
        have db : decide ((524288 : Int) < (a2.size : Int)) = false := decide_eq_false (by omega)
        have hsz : (a1 ++ a2).size ≤ 1048576 := by rw [ByteArray.size_append]; exact h
        have e1 : symL (gb a0 a3 a6 a4 a5) (a1 ++ a2).data.toList = bits .or .u32 (symL (gb a0 a3 a6 a4 a5) a1.data.toList) (symL (gb a0 a3 a6 a4 a5) a2.data.toList) := by
          rw [ByteArray.data_append, Array.toList_append]
          exact symL_append _ (gb_range a0 a3 a6 a4 a5) _ _
        have E1 : Hid (symL (gb a0 a3 a6 a4 a5) (a1 ++ a2).data.toList = bits .or .u32 (symL (gb a0 a3 a6 a4 a5) a1.data.toList) (symL (gb a0 a3 a6 a4 a5) a2.data.toList)) := e1
        clear e1
        have E2 : Hid (symL (gb a0 a3 a6 a4 false) [114, 119, 120] = 7 * 2 ^ (sh a0).toNat % 4294967296) := rwx_full a0 a3 a6 a4
        obtain ⟨hs1, hs2⟩ := sh_bd a0
        go_enter Try.func5, Try.ntmps5
        go_wp2_with fail
        refine (bytes_calls a0 a1 a2 a3 a4 a5 a6 w1 w2 _).mono ?_
        rintro e x0 ⟨rfl, hx0⟩
        rw [hd, hx0]
        clear hd hx0 x0
        go_wp2_with fail
        refine (zz_calls a0 (a1 ++ a2) a3 a6 a4 a5 w0 hsz _).mono ?_
        rintro e x1 ⟨rfl, b1⟩
        rw [E1.out]
        go_wp2_with fail
        refine (zz_calls a0 a1 a3 a6 a4 a5 w0 (by omega) _).mono ?_
        rintro e x2 ⟨rfl, b2⟩
        go_wp2_with fail
        refine (zz_calls a0 a2 a3 a6 a4 a5 w0 (by omega) _).mono ?_
        rintro e x3 ⟨rfl, b3⟩
        generalize symL (gb a0 a3 a6 a4 a5) a1.data.toList = A
        generalize symL (gb a0 a3 a6 a4 a5) a2.data.toList = B
        go_wp2_with fail
        refine (zz_calls a0 _ a3 a6 a4 false w0 (by decide) _).mono ?_
        rintro e x4 ⟨rfl, b4⟩
        rw [E2.out]
        go_wp2_with fail
        refine (shift_calls a0 _).mono ?_
        rintro e x5 ⟨rfl, hx5⟩
        rw [hx5]
        clear hx5 x5
        go_wp2
        go_ret
        exact ⟨rfl, ((b1.trans (b2.mono b1.size)).trans (b3.mono (Nat.le_trans b1.size b2.size))).trans (b4.mono (Nat.le_trans (Nat.le_trans b1.size b2.size) b3.size))⟩
      · have da : decide ((524288 : Int) < (a1.size : Int)) = false := decide_eq_false (by omega)
        have db : decide ((524288 : Int) < (a2.size : Int)) = true := decide_eq_true (by omega)
        go_enter Try.func5, Try.ntmps5
        go_wp2_with fail
        refine (bytes_calls a0 a1 a2 a3 a4 a5 a6 w1 w2 _).mono ?_
        rintro e x0 ⟨rfl, hx0⟩
        rw [hd, hx0]
        clear hd hx0 x0
        go_wp2
        go_ret
        exact ⟨rfl, Below.refl _ _⟩
    · have da : decide ((524288 : Int) < (a1.size : Int)) = true := decide_eq_true (by omega)
      go_enter Try.func5, Try.ntmps5
      go_wp2_with fail
      refine (bytes_calls a0 a1 a2 a3 a4 a5 a6 w1 w2 _).mono ?_
      rintro e x0 ⟨rfl, hx0⟩
      rw [hd, hx0]
      clear hd hx0 x0
      go_wp2
      go_ret
      exact ⟨rfl, Below.refl _ _⟩
  · have hd : decide (a1.size + a2.size ≤ 1048576) = false := decide_eq_false h
    go_enter Try.func5, Try.ntmps5
    go_wp2_with fail
    refine (bytes_calls a0 a1 a2 a3 a4 a5 a6 w1 w2 _).mono ?_
    rintro e x0 ⟨rfl, hx0⟩
    rw [hd, hx0]
    go_wp2
    go_ret
    exact ⟨rfl, Below.refl _ _⟩

/-! ### THE ROW's STEP: WRITTEN OUT: LEAVE IT -/
set_option maxRecDepth 100000 in
theorem lifted (os : Os) (started : os.Started) (H : Type) (enc : TypeId × Value → H) :
    ReturnsInHanded {} Try.checked os 5 .any (Rows.fnSymbolicBitsUnionOverConcatenationSpec.pre6 enc Try.prog Try.f5 Rows.fnSymbolicBitsUnionOverConcatenationRow.domain false) (Rows.fnSymbolicBitsUnionOverConcatenationSpec.post enc Try.prog Try.f5 false true false false) := by
  refine returnsInHanded_of_change (C := Try.checked) own started (by kernel_rfl) Try.func5
    (ChangeSpec.witness6 (enc := enc) (C := Try.checked) false ⟨#[], #[.int .u8 0, .string ByteArray.empty, .string ByteArray.empty, .int .u32 0, .bool false, .bool false, .int .u32 0], []⟩ 8 (by kernel_rfl) (by kernel_rfl) (by kernel_rfl) (by kernel_rfl)) ?_
  intro W base args ds gs before hval0 hW hcnd _
  have hval : ∀ (j : Nat) t v, Try.f5.params[j]? = some t → args[j]? = some v → Value.okWide Try.prog W .any base t v := hval0
  have hW' := hW
  obtain ⟨p, q, hA0, hV, rfl, hfz, hnd⟩ := hW
  have hA : DataW.TrodAll enc Try.prog W 0 (fun _ => true) true Try.f5.params.toList args.toList ds p := hA0
  rw [Try.params5] at hA hval
  obtain ⟨v0, vs0, d0, ds0, p0, q0, hargs, rfl, rfl, h0, r0⟩ := trodAll_cons hA
  obtain ⟨v1, vs1, d1, ds1, p1, q1, rfl, rfl, rfl, h1, r1⟩ := trodAll_cons r0
  obtain ⟨v2, vs2, d2, ds2, p2, q2, rfl, rfl, rfl, h2, r2⟩ := trodAll_cons r1
  obtain ⟨v3, vs3, d3, ds3, p3, q3, rfl, rfl, rfl, h3, r3⟩ := trodAll_cons r2
  obtain ⟨v4, vs4, d4, ds4, p4, q4, rfl, rfl, rfl, h4, r4⟩ := trodAll_cons r3
  obtain ⟨v5, vs5, d5, ds5, p5, q5, rfl, rfl, rfl, h5, r5⟩ := trodAll_cons r4
  obtain ⟨v6, vs6, d6, ds6, p6, q6, rfl, rfl, rfl, h6, r6⟩ := trodAll_cons r5
  obtain ⟨rfl, rfl, rfl⟩ := trodAll_nil r6
  obtain rfl : args = #[v0, v1, v2, v3, v4, v5, v6] := by cases args; simp_all
  obtain ⟨rfl, rfl⟩ := trodVars_none hV
  obtain ⟨a0, rfl, rfl, rfl, w0⟩ := open_int Try.underlying5 (hval 0 5 v0 rfl rfl) h0
  obtain ⟨a1, rfl, rfl, rfl, w1⟩ := open_string Try.underlying9 (hval 1 9 v1 rfl rfl) h1
  obtain ⟨a2, rfl, rfl, rfl, w2⟩ := open_string Try.underlying9 (hval 2 9 v2 rfl rfl) h2
  obtain ⟨a3, rfl, rfl, rfl, w3⟩ := open_int Try.underlying29 (hval 3 29 v3 rfl rfl) h3
  obtain ⟨a4, rfl, rfl, rfl⟩ := open_bool Try.underlying4 (hval 4 4 v4 rfl rfl) h4
  obtain ⟨a5, rfl, rfl, rfl⟩ := open_bool Try.underlying4 (hval 5 4 v5 rfl rfl) h5
  obtain ⟨a6, rfl, rfl, rfl, w6⟩ := open_int Try.underlying29 (hval 6 29 v6 rfl rfl) h6
  clear hA0 hval0
  refine (walk a0 a1 a2 a3 a4 a5 a6 w0 w1 w2 w3 w6 W).mono fun e W' ⟨he, bel⟩ => ?_
  subst he
  exact ⟨_, rfl, _, _, _, [], _, [], hW', trodAll_mk1 (shut_bool Try.underlying4 _), (trodAll_cons_mk (shut_int Try.underlying5 w0) (trodAll_cons_mk (shut_string Try.underlying9 w1) (trodAll_cons_mk (shut_string Try.underlying9 w2) (trodAll_cons_mk (shut_int Try.underlying29 w3) (trodAll_cons_mk (shut_bool Try.underlying4 _) (trodAll_cons_mk (shut_bool Try.underlying4 _) (trodAll_cons_mk (shut_int Try.underlying29 w6) trodAll_mk0))))))), rfl, bel.frame _, fun h => by cases h⟩

theorem over : Rows.fnSymbolicBitsUnionOverConcatenationRow.holds Try.pinned (OpenSpec.ofChange Rows.fnSymbolicBitsUnionOverConcatenationSpec) :=
  OpenClaim.holds_of_wide 5 Try.f5 rfl rfl rfl rfl rfl rfl rfl ⟨rfl, rfl, rfl, rfl, rfl⟩ rfl rfl rfl rfl rfl (by kernel_rfl) Try.func5 (by kernel_rfl)
    (of_decide_eq_true (by kernel_rfl)) (by unfold Func.isWrapper; first | (rw [if_pos (by decide +kernel)]; kernel_rfl) | (rw [if_neg (by decide +kernel)]; exact ⟨rfl, rfl⟩))
    (fun os started H enc _ => lifted os started H enc)

/-- ████ THE STATEMENT ████ -/
theorem proved : Rows.FnSymbolicBitsUnionOverConcatenationSaid :=
  over
end Go.Proofs.Qxb6605333a.fnSymbolicBitsUnionOverConcatenation
