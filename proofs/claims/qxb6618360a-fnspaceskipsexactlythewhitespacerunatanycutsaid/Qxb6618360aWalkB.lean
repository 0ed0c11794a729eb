/-
  WALKS of seat b6618360a: the top function: what it takes; the ways that answer true at once.
-/
import Derived.Test.Qxb6618360aWalkA
import Derived.Laws.CopyOwn
import Derived.OpenShut
namespace Go.Proofs.Qxb6618360a
open Go.RowKit
set_option linter.unusedVariables false
theorem Try.info5 : (Try.prog.info? 5).map (fun i => (i.zero, i.size, i.bytes)) = some (some (.int .u8 0), 1, 1) := by kernel_rfl

/-- WHAT THE WALK IS TOLD OF A SLICE OF INTEGERS THAT CAME IN: it is nil; or it leads to a row of 'cap' cells, the numbers 'zs' (the first 'len' are its elements, the rest its spare room), each fitting its kind. -/
def IsRow (k : IntKind) (w : World) (a : Option Addr) (len cap : Nat) (zs : List Int) : Prop :=
  (a = none ∧ len = 0 ∧ cap = 0 ∧ zs = []) ∨
  ∃ x, a = some x ∧ len ≤ cap ∧ cap ≤ maxLen ∧ zs.length = cap ∧ (∀ i, i < zs.length → w.cell? (x.add i) = some (.int k (zs.getD i 0))) ∧ ∀ n ∈ zs, (Lit.int k n).wf = true

/-- The row that copy has filled: the cells of the copy. -/
theorem copied_cells {w2 : World} {B n : Nat} {cur : List Value} {zs : List Int} (hcur : cur.length = n) (hz : zs.length = n)
    (h : w2.heap[B]? = some (.cells (splice cur 0 (zs.map (Value.int .u8))).toArray 5 (0, 0))) :
    ∀ k, k < n → w2.cell? ⟨B, 0 + k, none⟩ = some (.int .u8 (zs.getD k 0)) := by
  intro k hk
  have e : splice cur 0 (zs.map (Value.int .u8)) = zs.map (Value.int .u8) := by
    unfold splice
    simp [hz, hcur]
  rw [e] at h
  rw [cell_of_row w2 B (0 + k) _ 5 (0, 0) h]
  simp [hz, hk, List.getD]

/-- 'zzc := make([]byte, len(b)); copy(zzc, b)': what copy does. -/
theorem copy_made {w w1 : World} {x : Addr} {n c : Nat} {zs : List Int} (hown : w1.ownsRow w.heap.size 5 1 (.slice (some ⟨w.heap.size, 0, none⟩) n n) n (madeCells (Value.int .u8 0).cells (n * 1)).toList)
    (hgrow : w.grownBy w1 none) (hz : zs.length = n) (hcell : ∀ i, i < n → w.cell? (x.add i) = some (.int .u8 (zs.getD i 0))) :
    ∃ w2, (Builtin.copy_ #[22, 22] 3 #[.slice (some ⟨w.heap.size, 0, none⟩) n n, .slice (some x) n c]).run Try.prog w1 = .ok (.int .i64 (n : Int)) w2 ∧
      (∀ k, k < n → w2.cell? ⟨w.heap.size, 0 + k, none⟩ = some (.int .u8 (zs.getD k 0))) ∧ Below w.heap.size w w2 ∧ w.heap.size + 1 ≤ w2.heap.size := by
  have hb : Below w.heap.size w w1 := (Below.refl _ _).grown hgrow (Nat.le_refl _) (fun k e => by cases e)
  rcases hown.2 with ⟨h', _⟩ | ⟨g', cap', cur, h', _, hg, _, _, hsz, htake⟩
  · simp at h'
  simp only [Value.slice.injEq, Option.some.injEq, Addr.mk.injEq, and_true, true_and] at h'
  obtain ⟨rfl, rfl⟩ := h'
  have hlt : w.heap.size < w1.heap.size := by
    rcases Nat.lt_or_ge w.heap.size w1.heap.size with h | h
    · exact h
    · rw [Array.getElem?_eq_none h] at hg; simp at hg
  by_cases h0 : n = 0
  · subst h0
    have hr := run_copy_none (P := Try.prog) w1 22 22 3 5 (some ⟨w.heap.size, 0, none⟩) (some x) 0 0 0 c Try.underlying22 (by kernel_rfl) rfl
    exact ⟨w1, hr, fun k hk => absurd hk (Nat.not_lt_zero _), hb, hlt⟩
  · have hcs : (zs.map (Value.int .u8)).length = n := by simp [hz]
    have hx : x.block < w.heap.size := by
      have := World.block_lt_of_cell? w _ (hcell 0 (by omega))
      simpa [Addr.add] using this
    have hr := run_copy_row (P := Try.prog) w1 22 22 3 5 w.heap.size 0 n n x n c cur 5 (zs.map (Value.int .u8)) Try.underlying22 (by kernel_rfl) hg (by rw [hcs]; simp) (by
      intro j v hj
      have hjn : j < n := by have := (List.getElem?_eq_some_iff.1 hj).1; omega
      rw [hb.cell (p := x.add j) (by rw [Addr.add]; split <;> simpa using hx), hcell j hjn]
      rw [← hj]
      simp [hz, hjn, List.getD]) (by rw [hcs, hsz]; omega) (ints_oneCell _ _)
    rw [hcs] at hr
    refine ⟨_, hr, ?_, below_setRow hb (Nat.le_refl _) _, by simp only [World.setRow, Array.size_modify]; exact hlt⟩
    refine copied_cells (cur := cur.toList) (by simp [hsz]) hz ?_
    have e := setRow_heap w1 w.heap.size cur (cur.toList.take 0 ++ zs.map (Value.int .u8) ++ cur.toList.drop (0 + n)).toArray 5 (0, 0) hg
    rw [e]
    unfold splice
    rw [hcs, List.append_assoc]


theorem bytes_any (a0 : Option Addr) (n0 c0 : Nat) (i d k : Int) (sp : Bool) (w : World) :
    Calls Try.prog 4 #[.slice a0 n0 c0, .int .i64 i, .int .i64 d, .bool sp, .int .i64 k] w fun e w' => ∃ b, e = .returned (.bool b) ∧ w = w' := by
  go_enter Try.func4, Try.ntmps4
  go_wp2
  all_goals (go_ret; exact ⟨_, rfl, rfl⟩)

theorem bytes_ok (a0 : Option Addr) (n0 c0 : Nat) (i d k : Int) (sp : Bool) (w : World) (h0 : n0 ≤ 1048576) :
    Calls Try.prog 4 #[.slice a0 n0 c0, .int .i64 i, .int .i64 d, .bool sp, .int .i64 k] w fun e w' => e = .returned (.bool true) ∧ w = w' := by
  go_enter Try.func4, Try.ntmps4
  go_wp2
  go_ret
  exact ⟨rfl, rfl⟩

set_option maxRecDepth 100000 in
theorem fn_long (a0 : Option Addr) (n0 c0 : Nat) (i d k : Int) (sp : Bool) (w : World) (h0 : ¬ n0 ≤ 1048576) :
    Calls Try.prog 3 #[.slice a0 n0 c0, .int .i64 i, .int .i64 d, .bool sp, .int .i64 k] w fun e w' => e = .returned (.bool true) ∧ Below w.heap.size w w' := by
  go_enter Try.func3, Try.ntmps3
  go_wp2_with (go_at_call 4; refine (bytes_any _ _ _ _ _ _ _ _).mono ?_; rintro e w' ⟨b, rfl, rfl⟩)
  all_goals (go_ret; exact ⟨rfl, Below.refl _ _⟩)

set_option maxRecDepth 100000 in
theorem fn_neg (a0 : Option Addr) (n0 c0 : Nat) (i d k : Int) (sp : Bool) (w : World) (h0 : n0 ≤ 1048576) (hi : i < 0) :
    Calls Try.prog 3 #[.slice a0 n0 c0, .int .i64 i, .int .i64 d, .bool sp, .int .i64 k] w fun e w' => e = .returned (.bool true) ∧ Below w.heap.size w w' := by
  go_enter Try.func3, Try.ntmps3
  go_wp2_with (go_at_call 4; refine (bytes_ok _ _ _ _ _ _ _ _ h0).mono ?_; rintro e w' ⟨rfl, rfl⟩)
  go_ret
  exact ⟨rfl, Below.refl _ _⟩

set_option maxRecDepth 100000 in
theorem fn_cut (a0 : Option Addr) (n0 c0 : Nat) (i d k : Int) (sp : Bool) (w : World) (h0 : n0 ≤ 1048576) (hi : 0 ≤ i) (hk : k < 0 ∨ (n0 : Int) < k) :
    Calls Try.prog 3 #[.slice a0 n0 c0, .int .i64 i, .int .i64 d, .bool sp, .int .i64 k] w fun e w' => e = .returned (.bool true) ∧ Below w.heap.size w w' := by
  rcases hk with hk | hk
  · go_enter Try.func3, Try.ntmps3
    go_wp2_with (go_at_call 4; refine (bytes_ok _ _ _ _ _ _ _ _ h0).mono ?_; rintro e w' ⟨rfl, rfl⟩)
    go_ret
    exact ⟨rfl, Below.refl _ _⟩
  · have hk0 : ¬ k < 0 := by omega
    go_enter Try.func3, Try.ntmps3
    go_wp2_with (go_at_call 4; refine (bytes_ok _ _ _ _ _ _ _ _ h0).mono ?_; rintro e w' ⟨rfl, rfl⟩)
    go_ret
    exact ⟨rfl, Below.refl _ _⟩
end Go.Proofs.Qxb6618360a
