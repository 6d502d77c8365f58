import Derived.Test.Qxb6600572aRows
import Derived.WalkKit
import Derived.WalkSpells
import Derived.WalkLawsBesides
import Derived.Deep.QuietTactic
import Derived.BigQuiet
import Derived.Deep.DeepCutAuto
import Derived.Maps.AppendAt
namespace Go.Proofs.Qxb6600572a
open Go.RowKit

/-! ### small facts on the bits -/
theorem and7 (x : Int) (h0 : 0 ≤ x) (h1 : x ≤ 255) : bits .and .u8 x 7 = x % 8 := by
  obtain ⟨X, rfl⟩ := Int.eq_ofNat_of_zero_le h0
  have k : ∀ y : Fin 256, bits .and .u8 ((y.val : Nat) : Int) 7 = ((y.val : Nat) : Int) % 8 := by decide +kernel
  exact k ⟨X, by omega⟩
theorem and127 (x : Int) (h0 : 0 ≤ x) (h1 : x ≤ 255) : bits .and .u8 x 127 = x % 128 := by
  obtain ⟨X, rfl⟩ := Int.eq_ofNat_of_zero_le h0
  have k : ∀ y : Fin 256, bits .and .u8 ((y.val : Nat) : Int) 127 = ((y.val : Nat) : Int) % 128 := by decide +kernel
  exact k ⟨X, by omega⟩
theorem and31 (x : Int) (h0 : 0 ≤ x) (h1 : x ≤ 255) : bits .and .u8 x 31 = x % 32 := by
  obtain ⟨X, rfl⟩ := Int.eq_ofNat_of_zero_le h0
  have k : ∀ y : Fin 256, bits .and .u8 ((y.val : Nat) : Int) 31 = ((y.val : Nat) : Int) % 32 := by decide +kernel
  exact k ⟨X, by omega⟩
theorem or32 (x : Int) (h0 : 0 ≤ x) (h1 : x < 8) : bits .or .u8 x 32 = x + 32 := by
  obtain ⟨X, rfl⟩ := Int.eq_ofNat_of_zero_le h0
  have k : ∀ y : Fin 8, bits .or .u8 ((y.val : Nat) : Int) 32 = ((y.val : Nat) : Int) + 32 := by decide +kernel
  exact k ⟨X, by omega⟩
theorem or16 (x : Int) (h0 : 0 ≤ x) (h1 : x % 32 < 16) (h2 : x < 256) : bits .or .u8 x 16 = x + 16 := by
  obtain ⟨X, rfl⟩ := Int.eq_ofNat_of_zero_le h0
  have k : ∀ y : Fin 256, y.val % 32 < 16 → bits .or .u8 ((y.val : Nat) : Int) 16 = ((y.val : Nat) : Int) + 16 := by decide +kernel
  exact k ⟨X, by omega⟩ (by show X % 32 < 16; omega)

/-! ### toMedia (function 10) -/
theorem to_media (nr st hp lp ht hT ls hk : Bool) (pt pid tl tid ky : Int) (w : World) :
    Calls Try.prog 10 #[.agg #[.bool nr, .bool st, .int .u8 pt, .bool hp, .bool lp, .int .u16 pid, .bool ht, .int .u8 tl, .bool hT, .int .u8 tid, .bool ls, .bool hk, .int .u8 ky]] w fun e w' => e = .returned (.agg #[.bool nr, .bool st, .int .u8 pt, .bool hp, .bool lp, .int .u16 pid, .bool ht, .int .u8 tl, .bool hT, .int .u8 tid, .bool ls, .bool hk, .int .u8 ky]) ∧ Below w.heap.size w w' := by
  go_enter Try.func10, Try.ntmps10
  go_wp2
  refine bodyPost_ret (v := .agg #[.bool nr, .bool st, .int .u8 pt, .bool hp, .bool lp, .int .u16 pid, .bool ht, .int .u8 tl, .bool hT, .int .u8 tid, .bool ls, .bool hk, .int .u8 ky]) (by simp [results, Try.results10, go_sem]) rfl ⟨rfl, ?_⟩
  exact ((Below.refl _ _).alloc (Nat.le_refl _) _).alloc (by simp) _

/-! ### a row of bytes of the call's own, appended to -/
theorem info5 : (Try.prog.info? 5).map (fun i => (i.zero, i.size, i.bytes)) = some (some (.int .u8 0), 1, 1) := by kernel_rfl

/-- 'v' owns a row of the bytes zs, in no block below base, and not in block B. -/
def Own (w : World) (base B : Nat) (v : Value) (zs : List Int) : Prop :=
  w.ownsRow base 5 1 v zs.length (zs.map (.int .u8)) ∧ v.ownBlock ≠ some B ∧ base ≤ w.heap.size ∧ B < w.heap.size

theorem own_step {w : World} {base B : Nat} {v : Value} {zs : List Int} (h : Own w base B v zs) (ys : List Int) (ty : TypeId) (hb : zs.length + ys.length ≤ 2000000) :
    ∃ v' w', (Builtin.append_ #[25, 25] ty #[v, .slice (some ⟨w.heap.size, 0, none⟩) ys.length ys.length]).run Try.prog (w.alloc (.cells (ys.map (Value.int .u8)).toArray 5)) = .ok v' w' ∧ Own w' base B v' (zs ++ ys) ∧ Below base w w' ∧ w'.heap[B]? = w.heap[B]? := by
  obtain ⟨ho, hB, hbase, hlt⟩ := h
  obtain ⟨i, hi, hz0, hz1, hz2⟩ := info_parts info5
  have hcell : ∀ j u, (ys.map (Value.int .u8))[j]? = some u → (w.alloc (.cells (ys.map (Value.int .u8)).toArray 5)).cell? ((⟨w.heap.size, 0, none⟩ : Addr).add j) = some u := by
    intro j u hu
    rw [Addr.add_lit, Nat.zero_add]
    have e2 : (w.alloc (.cells (ys.map (Value.int .u8)).toArray 5)).heap[w.heap.size]? = some (.cells (ys.map (Value.int .u8)).toArray 5) := by
      show (w.heap.push _)[w.heap.size]? = _
      simp
    unfold World.cell?
    rw [e2]
    simpa using hu
  obtain ⟨v', w', hrun, hown', hg, _, hloc⟩ := run_append_own_at (P := Try.prog) (w.alloc (.cells (ys.map (Value.int .u8)).toArray 5)) base 25 ty 5 i (.int .u8 0) 1 1 Try.underlying25 hi hz0 hz1 hz2 rfl (by decide) v zs.length (zs.map (.int .u8)) (ho.alloc _)
    ⟨w.heap.size, 0, none⟩ ys.length ys.length (ys.map (Value.int .u8)) (by simp) hcell (ints_oneCell .u8 ys) (by unfold maxLen; omega) (by omega) (by simp; omega)
  have hvb : ∀ k, v.ownBlock = some k → base ≤ k := fun k hk => (ho.lt k hk).1
  refine ⟨v', w', hrun, ⟨by rw [List.length_append, List.map_append]; exact hown', ?_, ?_, ?_⟩, ?_, ?_⟩
  · rcases hloc with h | h
    · rw [h]; exact hB
    · rw [h]; simp; omega
  · have := hg.size; simp at this; omega
  · have := hg.size; simp at this; omega
  · exact ((Below.refl _ _).alloc hbase _).grown hg (by simp; omega) hvb
  · rw [hg.block B (by simp; omega) (fun e => hB e.symm)]
    exact Below.heap_alloc _ _ _ hlt

theorem own_step1 {w : World} {base B : Nat} {v : Value} {zs : List Int} (h : Own w base B v zs) (y : Int) (ty : TypeId) (hb : zs.length + 1 ≤ 2000000) :
    ∃ v' w', (Builtin.append_ #[25, 25] ty #[v, .slice (some ⟨w.heap.size, 0, none⟩) 1 1]).run Try.prog (w.alloc (.cells #[.int .u8 y] 5)) = .ok v' w' ∧ Own w' base B v' (zs ++ [y]) ∧ Below base w w' ∧ w'.heap[B]? = w.heap[B]? := own_step h [y] ty hb
theorem own_step2 {w : World} {base B : Nat} {v : Value} {zs : List Int} (h : Own w base B v zs) (y z : Int) (ty : TypeId) (hb : zs.length + 2 ≤ 2000000) :
    ∃ v' w', (Builtin.append_ #[25, 25] ty #[v, .slice (some ⟨w.heap.size, 0, none⟩) 2 2]).run Try.prog (w.alloc (.cells #[.int .u8 y, .int .u8 z] 5)) = .ok v' w' ∧ Own w' base B v' (zs ++ [y, z]) ∧ Below base w w' ∧ w'.heap[B]? = w.heap[B]? := own_step h [y, z] ty hb

def fst1 (nr : Bool) (pt : Int) : Int := if nr = true then pt % 8 + 32 else pt % 8
def fst2 (nr st : Bool) (pt : Int) : Int := if st = true then fst1 nr pt + 16 else fst1 nr pt
theorem fst1_bd (nr : Bool) (pt : Int) : 0 ≤ fst1 nr pt ∧ fst1 nr pt < 40 ∧ fst1 nr pt % 32 < 8 := by unfold fst1; split <;> omega
theorem fst2_bd (nr st : Bool) (pt : Int) : 0 ≤ fst2 nr st pt ∧ fst2 nr st pt < 64 := by have := fst1_bd nr pt; unfold fst2; split <;> omega
def exTo (hp ht hT hk : Bool) (k : Nat) : Int := (if hp = true ∧ 0 < k then 128 else 0) + (if ht = true ∧ 1 < k then 64 else 0) + (if hT = true ∧ 2 < k then 32 else 0) + (if hk = true ∧ 3 < k then 16 else 0)

theorem num8 {a b : Int} (h : a = b) : Value.int .u8 a = .int .u8 b := by rw [h]

theorem Own.below {w w' : World} {base B : Nat} {v : Value} {zs : List Int} (h : Own w base B v zs) (hb : Below w.heap.size w w') : Own w' base B v zs :=
  ⟨h.1.kept (row := none) ⟨hb.os, hb.tape, hb.output, hb.size, fun k hk _ => hb.block k hk⟩ (by cases hv : v.ownBlock with | none => exact .inl rfl | some k => exact .inr (by simp)), h.2.1, Nat.le_trans h.2.2.1 hb.size, Nat.lt_of_lt_of_le h.2.2.2 hb.size⟩

theorem Own.enter {w : World} {base : Nat} {v : Value} {zs : List Int} (h : w.ownsRow base 5 1 v zs.length (zs.map (.int .u8))) (hb : base ≤ w.heap.size) (o : Obj) : Own (w.alloc o) base w.heap.size v zs :=
  ⟨h.alloc o, fun e => by have := (h.lt _ e).2; omega, by simp; omega, by simp⟩

theorem cells_at (w : World) (cs : Array Value) (t : TypeId) (k : Nat) (u : Value) (h : cs[k]? = some u) : (w.alloc (.cells cs t)).cell? ⟨w.heap.size, k, none⟩ = some u := by
  have e2 : (w.alloc (.cells cs t)).heap[w.heap.size]? = some (.cells cs t) := by
    show (w.heap.push _)[w.heap.size]? = _
    simp
  unfold World.cell?
  rw [e2]
  exact h

theorem ex0 (hp ht hT hk : Bool) : exTo hp ht hT hk 0 = 0 := by cases hp <;> cases ht <;> cases hT <;> cases hk <;> decide

/-- 'append(b, y)', b a row of the call's own: the law for the walk. -/
theorem wpList_app1 {w : World} {ops : Array Oper} {rest : List Oper} {o : Oper} {a : Act} {Q : Exit → Act → World → Prop} (hg : o.guard = none) (s x : Operand)
    (hop : o.op = .call { callee := .builtin .append, args := #[s, x], argTypes := #[25, 25] }) {base B : Nat} {v : Value} {zs : List Int} {y : Int}
    (hs : a.eval s = v) (hx : a.eval x = .slice (some ⟨w.heap.size, 0, none⟩) 1 1) (h : Own w base B v zs) (hb : zs.length + 1 ≤ 2000000)
    (hK : ∀ v' w', Own w' base B v' (zs ++ [y]) → Below base w w' → w'.heap[B]? = w.heap[B]? → wpList Try.prog ops Q rest (a.put o.dst v') w') :
    wpList Try.prog ops Q (o :: rest) a (w.alloc (.cells #[.int .u8 y] 5)) := by
  obtain ⟨v', w', hrun, h1, h2, h3⟩ := own_step1 h y o.type hb
  refine wpList_plain hg fun K hK' => ?_
  unfold Oper.wp
  simp [execOp, hop, resolve, invoke, builtin, hs, hx, hrun, Result.andThen]
  exact hK' _ _ (hK v' w' h1 h2 h3)
theorem wpList_app2 {w : World} {ops : Array Oper} {rest : List Oper} {o : Oper} {a : Act} {Q : Exit → Act → World → Prop} (hg : o.guard = none) (s x : Operand)
    (hop : o.op = .call { callee := .builtin .append, args := #[s, x], argTypes := #[25, 25] }) {base B : Nat} {v : Value} {zs : List Int} {y z : Int}
    (hs : a.eval s = v) (hx : a.eval x = .slice (some ⟨w.heap.size, 0, none⟩) 2 2) (h : Own w base B v zs) (hb : zs.length + 2 ≤ 2000000)
    (hK : ∀ v' w', Own w' base B v' (zs ++ [y, z]) → Below base w w' → w'.heap[B]? = w.heap[B]? → wpList Try.prog ops Q rest (a.put o.dst v') w') :
    wpList Try.prog ops Q (o :: rest) a (w.alloc (.cells #[.int .u8 y, .int .u8 z] 5)) := by
  obtain ⟨v', w', hrun, h1, h2, h3⟩ := own_step2 h y z o.type hb
  refine wpList_plain hg fun K hK' => ?_
  unfold Oper.wp
  simp [execOp, hop, resolve, invoke, builtin, hs, hx, hrun, Result.andThen]
  exact hK' _ _ (hK v' w' h1 h2 h3)

theorem ex_zero {hp ht hT hk : Bool} (h : exTo hp ht hT hk 4 = 0) : hp = false ∧ ht = false ∧ hT = false ∧ hk = false := by
  revert h; cases hp <;> cases ht <;> cases hT <;> cases hk <;> decide
theorem ex_bd (hp ht hT hk : Bool) (k : Nat) : 0 ≤ exTo hp ht hT hk k ∧ exTo hp ht hT hk k ≤ 240 := by
  unfold exTo; repeat' split
  all_goals omega

/-- A slice of bytes that is nil, or full up to its capacity, and reads as zs. -/
def Full (w : World) (v : Value) (zs : List Int) : Prop :=
  (v = .slice none 0 0 ∧ zs = []) ∨ ∃ b : Addr, v = .slice (some b) zs.length zs.length ∧ ∀ j u, (zs.map (Value.int .u8))[j]? = some u → w.cell? (b.add j) = some u

theorem Full.below {w w' : World} {v : Value} {zs : List Int} (h : Full w v zs) (hb : Below w.heap.size w w') : Full w' v zs := by
  rcases h with h | ⟨b, h1, h2⟩
  · exact .inl h
  · exact .inr ⟨b, h1, fun j u hu => by
      have hc := h2 j u hu
      rw [hb.cell (World.block_lt_of_cell? w _ hc)]
      exact hc⟩

theorem full_step {w : World} {base B : Nat} {v : Value} {zs : List Int} (h : Full w v zs) (hbase : base ≤ w.heap.size) (hB : B < w.heap.size) (ys : List Int) (hy : 0 < ys.length) (ty : TypeId) (hb : zs.length + ys.length ≤ 2000000) :
    ∃ v' w', (Builtin.append_ #[25, 25] ty #[v, .slice (some ⟨w.heap.size, 0, none⟩) ys.length ys.length]).run Try.prog (w.alloc (.cells (ys.map (Value.int .u8)).toArray 5)) = .ok v' w' ∧ Own w' base B v' (zs ++ ys) ∧ Below w.heap.size w w' := by
  obtain ⟨i, hi, hz0, hz1, hz2⟩ := info_parts info5
  have hcell : ∀ j u, (ys.map (Value.int .u8))[j]? = some u → (w.alloc (.cells (ys.map (Value.int .u8)).toArray 5)).cell? ((⟨w.heap.size, 0, none⟩ : Addr).add j) = some u := by
    intro j u hu
    rw [Addr.add_lit, Nat.zero_add]
    exact cells_at w _ 5 j u (by simpa using hu)
  have hal : Below w.heap.size w (w.alloc (.cells (ys.map (Value.int .u8)).toArray 5)) := (Below.refl _ _).alloc (Nat.le_refl _) _
  have fin : ∀ v' w', w'.ownsRow (w.alloc (.cells (ys.map (Value.int .u8)).toArray 5)).heap.size 5 1 v' (zs.length + ys.length) (zs.map (Value.int .u8) ++ ys.map (Value.int .u8)) → (w.alloc (.cells (ys.map (Value.int .u8)).toArray 5)).grownBy w' none → Own w' base B v' (zs ++ ys) ∧ Below w.heap.size w w' := by
    intro v' w' ho hg
    have hsz := hg.size
    simp only [World.size_alloc] at hsz
    refine ⟨⟨?_, ?_, by omega, by omega⟩, hal.grown hg (by simp) (fun k hk => by cases hk)⟩
    · rw [List.length_append, List.map_append]
      refine ⟨ho.1, ?_⟩
      rcases ho.2 with h | ⟨g, cap, cur, h1, h2, h3⟩
      · exact .inl h
      · exact .inr ⟨g, cap, cur, h1, by simp only [World.size_alloc] at h2; omega, h3⟩
    · intro e
      have := (ho.lt _ e).1
      simp only [World.size_alloc] at this
      omega
  rcases h with ⟨rfl, rfl⟩ | ⟨b, rfl, hz⟩
  · obtain ⟨v', w', hrun, hown', hg, _⟩ := run_append_own (P := Try.prog) (w.alloc (.cells (ys.map (Value.int .u8)).toArray 5)) (w.alloc (.cells (ys.map (Value.int .u8)).toArray 5)).heap.size 25 ty 5 i (.int .u8 0) 1 1 Try.underlying25 hi hz0 hz1 hz2 rfl (by decide) (.slice none 0 0) 0 [] (World.ownsRow_nil _ _ _ _)
      ⟨w.heap.size, 0, none⟩ ys.length ys.length (ys.map (Value.int .u8)) (by simp) hcell (ints_oneCell .u8 ys) (by unfold maxLen; simp at hb; omega) (by simp at hb; omega) (Nat.le_refl _)
    exact ⟨v', w', hrun, fin v' w' hown' hg⟩
  · obtain ⟨v', w', hrun, hown', hg⟩ := run_append_arg_grows (P := Try.prog) (w.alloc (.cells (ys.map (Value.int .u8)).toArray 5)) 25 ty 5 i (.int .u8 0) 1 1 Try.underlying25 hi hz0 hz1 hz2 rfl (by decide) b zs.length zs.length (zs.map (Value.int .u8)) (by simp)
      (fun j u hu => by
        have hc := hz j u hu
        rw [hal.cell (World.block_lt_of_cell? w _ hc)]
        exact hc)
      ⟨w.heap.size, 0, none⟩ ys.length ys.length (ys.map (Value.int .u8)) (by simp) hcell (by omega) (by unfold maxLen; omega) (by omega)
    exact ⟨v', w', hrun, fin v' w' hown' hg⟩

theorem wpList_first1 {w : World} {ops : Array Oper} {rest : List Oper} {o : Oper} {a : Act} {Q : Exit → Act → World → Prop} (hg : o.guard = none) (s x : Operand)
    (hop : o.op = .call { callee := .builtin .append, args := #[s, x], argTypes := #[25, 25] }) {base B : Nat} {v : Value} {zs : List Int} {y : Int}
    (hs : a.eval s = v) (hx : a.eval x = .slice (some ⟨w.heap.size, 0, none⟩) 1 1) (h : Full w v zs) (hbase : base ≤ w.heap.size) (hB : B < w.heap.size) (hb : zs.length + 1 ≤ 2000000)
    (hK : ∀ v' w', Own w' base B v' (zs ++ [y]) → Below w.heap.size w w' → wpList Try.prog ops Q rest (a.put o.dst v') w') :
    wpList Try.prog ops Q (o :: rest) a (w.alloc (.cells #[.int .u8 y] 5)) := by
  obtain ⟨v', w', hrun, h1, h2⟩ := full_step h hbase hB [y] (by simp) o.type hb
  have hrun' : (Builtin.append_ #[25, 25] o.type #[v, .slice (some ⟨w.heap.size, 0, none⟩) 1 1]).run Try.prog (w.alloc (.cells #[.int .u8 y] 5)) = .ok v' w' := hrun
  refine wpList_plain hg fun K hK' => ?_
  unfold Oper.wp
  simp [execOp, hop, resolve, invoke, builtin, hs, hx, hrun', Result.andThen]
  exact hK' _ _ (hK v' w' h1 h2)
theorem wpList_first2 {w : World} {ops : Array Oper} {rest : List Oper} {o : Oper} {a : Act} {Q : Exit → Act → World → Prop} (hg : o.guard = none) (s x : Operand)
    (hop : o.op = .call { callee := .builtin .append, args := #[s, x], argTypes := #[25, 25] }) {base B : Nat} {v : Value} {zs : List Int} {y z : Int}
    (hs : a.eval s = v) (hx : a.eval x = .slice (some ⟨w.heap.size, 0, none⟩) 2 2) (h : Full w v zs) (hbase : base ≤ w.heap.size) (hB : B < w.heap.size) (hb : zs.length + 2 ≤ 2000000)
    (hK : ∀ v' w', Own w' base B v' (zs ++ [y, z]) → Below w.heap.size w w' → wpList Try.prog ops Q rest (a.put o.dst v') w') :
    wpList Try.prog ops Q (o :: rest) a (w.alloc (.cells #[.int .u8 y, .int .u8 z] 5)) := by
  obtain ⟨v', w', hrun, h1, h2⟩ := full_step h hbase hB [y, z] (by simp) o.type hb
  have hrun' : (Builtin.append_ #[25, 25] o.type #[v, .slice (some ⟨w.heap.size, 0, none⟩) 2 2]).run Try.prog (w.alloc (.cells #[.int .u8 y, .int .u8 z] 5)) = .ok v' w' := hrun
  refine wpList_plain hg fun K hK' => ?_
  unfold Oper.wp
  simp [execOp, hop, resolve, invoke, builtin, hs, hx, hrun', Result.andThen]
  exact hK' _ _ (hK v' w' h1 h2)

theorem cell_of {w : World} {B k : Nat} {cs : Array Value} {t : TypeId} {m : Nat × Nat} {u : Value} (h : w.heap[B]? = some (.cells cs t m)) (hk : cs[k]? = some u) : w.cell? ⟨B, k, none⟩ = some u := by
  unfold World.cell?
  rw [h]
  exact hk

/-! ### the bytes that Append writes -/
theorem or128l (y : Int) (h0 : 0 ≤ y) (h1 : y < 128) : bits .or .u8 128 y = 128 + y := by
  obtain ⟨X, rfl⟩ := Int.eq_ofNat_of_zero_le h0
  have k : ∀ y : Fin 128, bits .or .u8 128 ((y.val : Nat) : Int) = 128 + ((y.val : Nat) : Int) := by decide +kernel
  exact k ⟨X, by omega⟩
theorem or0l (y : Int) (h0 : 0 ≤ y) (h1 : y < 256) : bits .or .u8 0 y = y := by
  obtain ⟨X, rfl⟩ := Int.eq_ofNat_of_zero_le h0
  have k : ∀ y : Fin 256, bits .or .u8 0 ((y.val : Nat) : Int) = ((y.val : Nat) : Int) := by decide +kernel
  exact k ⟨X, by omega⟩
theorem or32h (x : Int) (h0 : 0 ≤ x) (h1 : x < 256) (h2 : x % 64 = 0) : bits .or .u8 x 32 = x + 32 := by
  obtain ⟨X, rfl⟩ := Int.eq_ofNat_of_zero_le h0
  have k : ∀ y : Fin 256, y.val % 64 = 0 → bits .or .u8 ((y.val : Nat) : Int) 32 = ((y.val : Nat) : Int) + 32 := by decide +kernel
  exact k ⟨X, by omega⟩ (by show X % 64 = 0; omega)
theorem orlow (x y : Int) (h0 : 0 ≤ x) (h1 : x < 256) (h2 : x % 32 = 0) (g0 : 0 ≤ y) (g1 : y < 32) : bits .or .u8 x y = x + y := by
  obtain ⟨Y, rfl⟩ := Int.eq_ofNat_of_zero_le g0
  have k : ∀ (z : Fin 8) (y : Fin 32), bits .or .u8 ((32 * z.val : Nat) : Int) ((y.val : Nat) : Int) = ((32 * z.val : Nat) : Int) + ((y.val : Nat) : Int) := by decide +kernel
  obtain ⟨Z, hZ⟩ : ∃ Z : Nat, x = ((32 * Z : Nat) : Int) := ⟨(x / 32).toNat, by omega⟩
  rw [hZ]
  exact k ⟨Z, by omega⟩ ⟨Y, by omega⟩

def pidL (hp lp : Bool) (pid : Int) : List Int := if hp = true then (if lp = true then [128 + pid / 256 % 128, pid % 256] else [pid % 128]) else []
def tlL (ht : Bool) (tl : Int) : List Int := if ht = true then [tl] else []
def tb (hT : Bool) (tid : Int) (ls hk : Bool) (ky : Int) : Int := (if hT = true then tid % 4 * 64 + (if ls = true then 32 else 0) else 0) + (if hk = true then ky % 32 else 0)
def tL (hT : Bool) (tid : Int) (ls hk : Bool) (ky : Int) : List Int := if (hT || hk) = true then [tb hT tid ls hk ky] else []
def bytesOf (nr st : Bool) (pt : Int) (hp lp : Bool) (pid : Int) (ht : Bool) (tl : Int) (hT : Bool) (tid : Int) (ls hk : Bool) (ky : Int) : List Int :=
  if exTo hp ht hT hk 4 = 0 then [fst2 nr st pt] else [fst2 nr st pt + 128, exTo hp ht hT hk 4] ++ pidL hp lp pid ++ tlL ht tl ++ tL hT tid ls hk ky

end Go.Proofs.Qxb6600572a
