/-
  WALKS of seat b6618264a: FnContainerEndMatchesModel.
-/
import Derived.Test.Qxb6618264aWalkB
import Derived.Laws.CopyOwn
import Derived.OpenShut
namespace Go.Proofs.Qxb6618264a
open Go.RowKit
set_option linter.unusedVariables false
theorem Try.info5 : (Try.prog.info? 5).map (fun i => (i.zero, i.size, i.bytes)) = some (some (.int .u8 0), 1, 1) := by kernel_rfl

/-- WHAT THE WALK IS TOLD OF A SLICE OF INTEGERS THAT CAME IN: it is nil; or it leads to a row of 'cap' cells, the numbers 'zs' (the first 'len' are its elements, the rest its spare room), each fitting its kind. -/
def IsRow (k : IntKind) (w : World) (a : Option Addr) (len cap : Nat) (zs : List Int) : Prop :=
  (a = none ∧ len = 0 ∧ cap = 0 ∧ zs = []) ∨
  ∃ x, a = some x ∧ len ≤ cap ∧ cap ≤ maxLen ∧ zs.length = cap ∧ (∀ i, i < zs.length → w.cell? (x.add i) = some (.int k (zs.getD i 0))) ∧ ∀ n ∈ zs, (Lit.int k n).wf = true

/-! ### STEP 1: THE WALK -/
theorem wf_i64 {n : Int} (h : (Lit.int .i64 n).wf = true) : -9223372036854775808 ≤ n ∧ n ≤ 9223372036854775807 := bounds_i64 h

/-- The row that copy has filled: the cells of the copy. -/
theorem copied_cells {w2 : World} {B n : Nat} {cur : List Value} {zs : List Int} (hcur : cur.length = n) (hz : zs.length = n)
    (h : w2.heap[B]? = some (.cells (splice cur 0 (zs.map (Value.int .u8))).toArray 5 (0, 0))) :
    ∀ k, k < n → w2.cell? ⟨B, 0 + k, none⟩ = some (.int .u8 (zs.getD k 0)) := by
  intro k hk
  have e : splice cur 0 (zs.map (Value.int .u8)) = zs.map (Value.int .u8) := by
    unfold splice
    simp [hz, hcur]
  rw [e] at h
  rw [cell_of_row w2 B (0 + k) _ 5 (0, 0) h]
  simp [hz, hk, List.getD]

theorem bytes_ok (a : Option Addr) (n c : Nat) (i : Int) (h : n ≤ 1048576) (w : World) :
    Calls Try.prog 11 #[.slice a n c, .int .i64 i] w fun e w' => e = .returned (.bool true) ∧ w = w' := by
  go_enter Try.func11, Try.ntmps11
  go_wp2
  go_ret
  exact ⟨rfl, rfl⟩

/-- 'zzc := make([]byte, len(b)); copy(zzc, b)': what copy does. -/
theorem copy_made {w w1 : World} {x : Addr} {n c : Nat} {zs : List Int} (hown : w1.ownsRow w.heap.size 5 1 (.slice (some ⟨w.heap.size, 0, none⟩) n n) n (madeCells (Value.int .u8 0).cells (n * 1)).toList)
    (hgrow : w.grownBy w1 none) (hz : zs.length = n) (hcell : ∀ i, i < n → w.cell? (x.add i) = some (.int .u8 (zs.getD i 0))) :
    ∃ w2, (Builtin.copy_ #[22, 22] 3 #[.slice (some ⟨w.heap.size, 0, none⟩) n n, .slice (some x) n c]).run Try.prog w1 = .ok (.int .i64 (n : Int)) w2 ∧
      (∀ k, k < n → w2.cell? ⟨w.heap.size, 0 + k, none⟩ = some (.int .u8 (zs.getD k 0))) ∧ Below w.heap.size w w2 ∧ w.heap.size + 1 ≤ w2.heap.size := by
  have hb : Below w.heap.size w w1 := (Below.refl _ _).grown hgrow (Nat.le_refl _) (fun k e => by cases e)
  rcases hown.2 with ⟨h', _⟩ | ⟨g', cap', cur, h', _, hg, _, _, hsz, htake⟩
  · simp at h'
  simp only [Value.slice.injEq, Option.some.injEq, Addr.mk.injEq, and_true, true_and] at h'
  obtain ⟨rfl, rfl⟩ := h'
  have hlt : w.heap.size < w1.heap.size := by
    rcases Nat.lt_or_ge w.heap.size w1.heap.size with h | h
    · exact h
    · rw [Array.getElem?_eq_none h] at hg; simp at hg
  by_cases h0 : n = 0
  · subst h0
    have hr := run_copy_none (P := Try.prog) w1 22 22 3 5 (some ⟨w.heap.size, 0, none⟩) (some x) 0 0 0 c Try.underlying22 (by kernel_rfl) rfl
    exact ⟨w1, hr, fun k hk => absurd hk (Nat.not_lt_zero _), hb, hlt⟩
  · have hcs : (zs.map (Value.int .u8)).length = n := by simp [hz]
    have hx : x.block < w.heap.size := by
      have := World.block_lt_of_cell? w _ (hcell 0 (by omega))
      simpa [Addr.add] using this
    have hr := run_copy_row (P := Try.prog) w1 22 22 3 5 w.heap.size 0 n n x n c cur 5 (zs.map (Value.int .u8)) Try.underlying22 (by kernel_rfl) hg (by rw [hcs]; simp) (by
      intro j v hj
      have hjn : j < n := by have := (List.getElem?_eq_some_iff.1 hj).1; omega
      rw [hb.cell (p := x.add j) (by rw [Addr.add]; split <;> simpa using hx), hcell j hjn]
      rw [← hj]
      simp [hz, hjn, List.getD]) (by rw [hcs, hsz]; omega) (ints_oneCell _ _)
    rw [hcs] at hr
    refine ⟨_, hr, ?_, below_setRow hb (Nat.le_refl _) _, by simp only [World.setRow, Array.size_modify]; exact hlt⟩
    refine copied_cells (cur := cur.toList) (by simp [hsz]) hz ?_
    have e := setRow_heap w1 w.heap.size cur (cur.toList.take 0 ++ zs.map (Value.int .u8) ++ cur.toList.drop (0 + n)).toArray 5 (0, 0) hg
    rw [e]
    unfold splice
    rw [hcs, List.append_assoc]

set_option maxHeartbeats 1000000 in
theorem matches_walk (a0 : Option Addr) (len0 cap0 : Nat) (z0 : List Int) (a1 : Int) (w : World) (w0 : IsRow .u8 w a0 len0 cap0 z0) (w1 : (Lit.int .i64 a1).wf = true) :
    Calls Try.prog 4 #[.slice a0 len0 cap0, .int .i64 a1] w fun e w' => e = .returned (.bool true) ∧ Below w.heap.size w w' := by
  obtain ⟨b1, b2⟩ := wf_i64 w1
  clear w1
  by_cases hlen : len0 ≤ 1048576
  · by_cases hi : 0 ≤ a1
    · rcases w0 with ⟨rfl, rfl, rfl, rfl⟩ | ⟨x, rfl, hlc, hcm, hz, hcell, hwf⟩
      · have hnn := fun wx => run_neq_slice_nil_any (P := Try.prog) wx 22 5 none 0 0 0 0 Try.underlying22
        go_enter Try.func4, Try.ntmps4
        go_wp2_with (first | (go_at_call 11; refine (bytes_ok none 0 0 a1 (by omega) _).mono ?_; rintro e w' ⟨rfl, rfl⟩) | (go_at_call 12; refine (zz_past none 0 0 (by omega) a1 (by omega) b2 _).mono ?_; rintro e w' ⟨rfl, rfl⟩) | (go_at_call 13; refine (lw_past none 0 0 (by omega) a1 (by omega) b2 _).mono ?_; rintro e w' ⟨rfl, rfl⟩))
        go_ret
        exact ⟨rfl, Below.refl _ _⟩
      · have hnn := fun wx => run_neq_slice_nil_any (P := Try.prog) wx 22 5 (some x) len0 cap0 0 0 Try.underlying22
        obtain ⟨i0, hi0, hz0, hz1, hz2⟩ := info_parts Try.info5
        have HC : Hid (∀ i, i < len0 → w.cell? (x.add i) = some (.int .u8 ((z0.take len0).getD i 0))) := by
          intro i hi
          rw [hcell i (by omega)]
          simp [List.getD, hi]
        have HZ : Hid ((z0.take len0).length = len0) := by show (z0.take len0).length = len0; simp; omega
        clear hcell hwf hz
        generalize z0.take len0 = bs at *
        obtain ⟨i, rfl⟩ := Int.eq_ofNat_of_zero_le hi
        by_cases hil : i < len0
        · go_enter Try.func4, Try.ntmps4
          go_wp2_with (first | (go_at_call 11; refine (bytes_ok (some x) len0 cap0 _ hlen _).mono ?_; rintro e w' ⟨rfl, rfl⟩) | (at_make; refine wpList_make_full _ rfl (.tmp 18) (.tmp 18) 22 rfl w.heap.size 5 i0 (.int .u8 0) 1 Try.underlying22 hi0 hz0 hz1 .i64 .i64 _ _ len0 rfl rfl (by omega) (by omega) (by rw [hz2]; omega) (by unfold maxLen; omega) (Nat.le_refl _) ?_; intro w1 hown hgrow; obtain ⟨w2, hcp, hc2, hb2, hs2⟩ := copy_made (c := cap0) hown hgrow HZ.out HC.out; have HC2 := hide hc2; clear hc2 hown hgrow) | (go_at_call 12; refine (zz_pos w.heap.size 0 len0 len0 bs HZ.out hlen i (by omega) _ HC2.out).mono ?_; rintro e w' ⟨rfl, rfl⟩) | (go_at_call 13; refine (lw_pos w.heap.size 0 len0 len0 bs HZ.out hlen i hil _ HC2.out).mono ?_; rintro e w3 ⟨rfl, hb3⟩))
          go_ret
          exact ⟨by simp, hb2.trans (hb3.mono hb2.size)⟩
        · go_enter Try.func4, Try.ntmps4
          go_wp2_with (first | (go_at_call 11; refine (bytes_ok (some x) len0 cap0 _ hlen _).mono ?_; rintro e w' ⟨rfl, rfl⟩) | (at_make; refine wpList_make_full _ rfl (.tmp 18) (.tmp 18) 22 rfl w.heap.size 5 i0 (.int .u8 0) 1 Try.underlying22 hi0 hz0 hz1 .i64 .i64 _ _ len0 rfl rfl (by omega) (by omega) (by rw [hz2]; omega) (by unfold maxLen; omega) (Nat.le_refl _) ?_; intro w1 hown hgrow; obtain ⟨w2, hcp, hc2, hb2, hs2⟩ := copy_made (c := cap0) hown hgrow HZ.out HC.out; have HC2 := hide hc2; clear hc2 hown hgrow) | (go_at_call 12; refine (zz_past _ len0 len0 hlen i (by omega) b2 _).mono ?_; rintro e w' ⟨rfl, rfl⟩) | (go_at_call 13; refine (lw_past _ len0 len0 hlen i (by omega) b2 _).mono ?_; rintro e w' ⟨rfl, rfl⟩))
          go_ret
          exact ⟨by simp, hb2⟩
    · go_enter Try.func4, Try.ntmps4
      go_wp2
      go_ret
      exact ⟨rfl, Below.refl _ _⟩
  · go_enter Try.func4, Try.ntmps4
    go_wp2
    go_ret
    exact ⟨rfl, Below.refl _ _⟩

end Go.Proofs.Qxb6618264a
