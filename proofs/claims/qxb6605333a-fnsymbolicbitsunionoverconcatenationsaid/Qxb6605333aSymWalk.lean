import Derived.Test.Qxb6605333aPlain
namespace Go.Proofs.Qxb6605333a
open Go.RowKit Go.Maps

theorem take_snoc (s : ByteArray) (k : Nat) (h : k < s.size) : s.data.toList.take (k + 1) = s.data.toList.take k ++ [s[k]] := by
  rw [List.take_succ_eq_append_getElem (by simpa using h)]; rfl

theorem bytesRow_cell (w : World) (s : ByteArray) (cap : Nat) (e : TypeId) (m : Nat × Nat) (k : Nat) (h : k < s.size) : (w.alloc (.cells (bytesRow s cap) e m)).drew.cell? ⟨w.heap.size, k, none⟩ = some (.int .u8 (s[k].toNat : Int)) := by
  have e1 : (bytesRow s cap)[k]? = some (.int .u8 (s[k].toNat : Int)) := by
    unfold bytesRow
    rw [Array.getElem?_append_left (by simpa using h)]
    rw [Array.getElem?_map, Array.getElem?_eq_getElem (by simpa using h)]
    rfl
  have e2 : (w.alloc (.cells (bytesRow s cap) e m)).drew.heap[w.heap.size]? = some (.cells (bytesRow s cap) e m) := by
    show (w.heap.push _)[w.heap.size]? = _
    simp
  unfold World.cell?
  rw [e2]
  exact e1

theorem gb_rwx (u perm um : Int) (dir : Bool) (c : Int) (h : c = 114 ∨ c = 119 ∨ c = 120) : gb u perm um dir false c = rwx c * 2 ^ (sh u).toNat % 4294967296 := by
  unfold gb; rw [if_pos h]; rfl
theorem gb_rwxU (u perm um : Int) (dir : Bool) (c : Int) (h : c = 114 ∨ c = 119 ∨ c = 120) : gb u perm um dir true c = bits .andNot .u32 (rwx c * 2 ^ (sh u).toNat % 4294967296) um := by
  unfold gb; rw [if_pos h]; rfl
theorem gb_X (u perm um : Int) (dir inU : Bool) (h : (dir || (bits .and .u32 perm 73 != 0)) = true) : gb u perm um dir inU 88 = 2 ^ (sh u).toNat % 4294967296 := by
  unfold gb; rw [if_neg (by omega), if_pos rfl, if_pos h]
theorem gb_X0 (u perm um : Int) (inU : Bool) (h : (bits .and .u32 perm 73 != 0) = false) : gb u perm um false inU 88 = 0 := by
  unfold gb; rw [if_neg (by omega), if_pos rfl, if_neg (by simp [h])]
theorem gb_s (u perm um : Int) (dir inU : Bool) : gb u perm um dir inU 115 = sbit u := by
  unfold gb; rw [if_neg (by omega), if_neg (by omega), if_pos rfl]
theorem gb_t (u perm um : Int) (dir inU : Bool) : gb u perm um dir inU 116 = tbit u := by
  unfold gb; rw [if_neg (by omega), if_neg (by omega), if_neg (by omega), if_pos rfl]
theorem gb_ugo (u perm um : Int) (dir inU : Bool) (c : Int) (h : c = 117 ∨ c = 103 ∨ c = 111) : gb u perm um dir inU c = bits .and .u32 (perm / 2 ^ (sh c).toNat) 7 * 2 ^ (sh u).toNat % 4294967296 := by
  unfold gb; rw [if_neg (by omega), if_neg (by omega), if_neg (by omega), if_neg (by omega), if_pos h]
theorem gb_else (u perm um : Int) (dir inU : Bool) (c : Int) (h : c ≠ 114 ∧ c ≠ 119 ∧ c ≠ 120 ∧ c ≠ 88 ∧ c ≠ 115 ∧ c ≠ 116 ∧ c ≠ 117 ∧ c ≠ 103 ∧ c ≠ 111) : gb u perm um dir inU c = 0 := by
  unfold gb; rw [if_neg (by omega), if_neg (by omega), if_neg (by omega), if_neg (by omega), if_neg (by omega)]

theorem num32 {a b : Int} (h : a = b) : Value.int .u32 a = .int .u32 b := by rw [h]

set_option maxHeartbeats 4000000 in
set_option maxRecDepth 100000 in
theorem sym_calls (u : Int) (s : ByteArray) (perm um : Int) (dir inU : Bool) (hu : (Lit.int .u8 u).wf = true) (hs : s.size ≤ 1048576) (w : World) :
    Calls Try.prog 18 #[.int .u8 u, .string s, .int .u32 perm, .bool dir, .bool inU, .int .u32 um] w fun e w' => e = .returned (.int .u32 (symL (gb u perm um dir inU) s.data.toList)) ∧ Below w.heap.size w w' := by
  have hmm := @run_makeMap Try.prog
  obtain ⟨w1, w2, w3, r1, r2, r3, r4, b3⟩ := lit37 u hu w
  have hcv := run_bytes_of_string (P := Try.prog) w3 9 28 5 s Try.underlying9 Try.underlying28 Try.underlying5
  obtain ⟨hs1, hs2⟩ := sh_bd u
  go_enter Try.func18, Try.ntmps18
  go_wp2
  clear r1 r2 r3 r4 hcv
  go_loopw [14, 26] (fun b i wr => ∃ k : Nat, k ≤ s.size ∧ i = .int .i64 k ∧ b = .int .u32 (symL (gb u perm um dir inU) (s.data.toList.take k)) ∧ Below (w3.heap.size + 1) (w3.alloc (.cells (bytesRow s (grownCap w3 s.size 0 5)) 5 ((bytesRow s (grownCap w3 s.size 0 5)).size, (bytesRow s (grownCap w3 s.size 0 5)).size + 1))).drew wr) (fun _ i _ => s.size - (intOf i).toNat)
  case atStart => exact ⟨0, Nat.zero_le _, rfl, rfl, Below.refl _ _⟩
  case round =>
    obtain ⟨k, hk, rfl, rfl, hb⟩ := hrel
    by_cases hlt : k < s.size
    · have hc0 : wr.cell? ⟨w3.heap.size, k, none⟩ = some (.int .u8 (s[k].toNat : Int)) := by
        rw [hb.cell (p := ⟨w3.heap.size, k, none⟩) (Nat.lt_succ_self _)]
        exact bytesRow_cell _ _ _ _ _ _ hlt
      have hcu0 : (Lit.int .u8 (s[k].toNat : Int)).wf = true := by
        have := s[k].toNat_lt
        exact WalkArith.wf_u8 (by omega)
      have HS0 : Hid (symL (gb u perm um dir inU) (s.data.toList.take (k + 1)) = bits .or .u32 (symL (gb u perm um dir inU) (s.data.toList.take k)) (gb u perm um dir inU (s[k].toNat : Int))) := by
        show _ = _
        rw [take_snoc s k hlt, symL_snoc]
      have hx := symL_range (gb u perm um dir inU) (s.data.toList.take k)
      have hsz : w3.heap.size + 1 ≤ wr.heap.size := by have := hb.size; simpa using this
      generalize symL (gb u perm um dir inU) (s.data.toList.take k) = x at *
      generalize (s[k].toNat : Int) = c at *
      have HB := hb
      clear hb
      by_cases hr : c = 114 ∨ c = 119 ∨ c = 120
      · obtain ⟨v1, v2, v3, p1, p2, p3, p4, q3⟩ := lit38r c hcu0 wr
        cases inU
        · rw [gb_rwx _ _ _ _ _ hr] at HS0
          rcases hr with rfl | rfl | rfl
          all_goals
            go_wp2
            go_roundw
            case rel => exact ⟨k + 1, by omega, by go_num, num32 HS0.out.symm, HB.trans (q3.mono hsz)⟩
            case measure => simp [intOf]; omega
        · rw [gb_rwxU _ _ _ _ _ hr] at HS0
          rcases hr with rfl | rfl | rfl
          all_goals
            go_wp2
            go_roundw
            case rel => exact ⟨k + 1, by omega, by go_num, num32 HS0.out.symm, HB.trans (q3.mono hsz)⟩
            case measure => simp [intOf]; omega
      by_cases hX : c = 88
      · subst hX
        clear hr
        cases dir
        · cases hp : (bits .and .u32 perm 73 != 0)
          · rw [gb_X0 _ _ _ _ hp, or_zero hx] at HS0
            go_wp2
            go_roundw
            case rel => exact ⟨k + 1, by omega, by go_num, num32 HS0.out.symm, HB⟩
            case measure => simp [intOf]; omega
          · rw [gb_X _ _ _ _ _ (by simp [hp])] at HS0
            go_wp2
            go_roundw
            case rel => exact ⟨k + 1, by omega, by go_num, num32 HS0.out.symm, HB⟩
            case measure => simp [intOf]; omega
        · rw [gb_X _ _ _ _ _ rfl] at HS0
          go_wp2
          go_roundw
          case rel => exact ⟨k + 1, by omega, by go_num, num32 HS0.out.symm, HB⟩
          case measure => simp [intOf]; omega
      by_cases hS : c = 115
      · subst hS
        rw [gb_s] at HS0
        obtain ⟨v1, v2, p1, p2, p4, q3⟩ := lit38s u hu wr
        clear hr hX
        go_wp2
        go_roundw
        case rel => exact ⟨k + 1, by omega, by go_num, num32 HS0.out.symm, HB.trans (q3.mono hsz)⟩
        case measure => simp [intOf]; omega
      by_cases hT : c = 116
      · subst hT
        rw [gb_t] at HS0
        obtain ⟨v1, p1, p4, q3⟩ := lit38t u hu wr
        clear hr hX hS
        go_wp2
        go_roundw
        case rel => exact ⟨k + 1, by omega, by go_num, num32 HS0.out.symm, HB.trans (q3.mono hsz)⟩
        case measure => simp [intOf]; omega
      by_cases hU : c = 117 ∨ c = 103 ∨ c = 111
      · rw [gb_ugo _ _ _ _ _ _ hU] at HS0
        obtain ⟨v1, v2, v3, p1, p2, p3, p4, q3⟩ := lit37 c hcu0 wr
        have hz1 : 0 ≤ sh c := (sh_bd _).1
        have hz2 : sh c ≤ 6 := (sh_bd _).2
        clear hr hX hS hT
        rcases hU with rfl | rfl | rfl
        all_goals
          go_wp2
          go_roundw
          case rel => exact ⟨k + 1, by omega, by go_num, num32 HS0.out.symm, HB.trans (q3.mono hsz)⟩
          case measure => simp [intOf]; omega
      rw [gb_else _ _ _ _ _ _ (by omega), or_zero hx] at HS0
      have t1 : (c == 114) = false := by simp; omega
      have t2 : (c == 119) = false := by simp; omega
      have t3 : (c == 120) = false := by simp; omega
      have t4 : (c == 88) = false := by simp; omega
      have t5 : (c == 115) = false := by simp; omega
      have t6 : (c == 116) = false := by simp; omega
      have t7 : (c == 117) = false := by simp; omega
      have t8 : (c == 103) = false := by simp; omega
      have t9 : (c == 111) = false := by simp; omega
      clear hr hX hS hT hU
      go_wp2
      go_roundw
      case rel => exact ⟨k + 1, by omega, by go_num, num32 HS0.out.symm, HB⟩
      case measure => simp [intOf]; omega
    · have he : s.data.toList.take k = s.data.toList := List.take_of_length_le (by simp; omega)
      have HE : Hid (s.data.toList.take k = s.data.toList) := he
      clear he
      go_wp2
      go_ret
      refine ⟨by rw [HE.out]; rfl, ?_⟩
      exact ((b3.alloc b3.size _).drew).trans (hb.mono (Nat.le_succ_of_le b3.size))
end Go.Proofs.Qxb6605333a
