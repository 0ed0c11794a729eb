/-
  WALKS of seat b6618360a: the top function at a nil slice; the whole walk.
-/
import Derived.Test.Qxb6618360aWalkD
namespace Go.Proofs.Qxb6618360a
open Go.RowKit
set_option linter.unusedVariables false

/-- b is nil: the cut is 0. -/
theorem rd_nil {w : World} : Rd w none 0 [] := ⟨rfl, fun h => absurd h (Nat.lt_irrefl _)⟩

set_option maxRecDepth 100000 in
set_option maxHeartbeats 4000000 in
theorem fn_nil (i : Nat) (d : Int) (sp : Bool) (hi2 : i ≤ 9223372036854775807) (w : World) :
    Calls Try.prog 3 #[.slice none 0 0, .int .i64 i, .int .i64 d, .bool sp, .int .i64 0] w fun e w' => e = .returned (.bool true) ∧ Below w.heap.size w w' := by
  have hnn := fun wx => run_neq_slice_nil_any (P := Try.prog) wx 22 5 none 0 0 0 0 Try.underlying22
  have hsp : (sp || decide (i < i)) = sp := by simp
  by_cases h0 : i = 0
  · subst h0
    clear hsp
    cases sp
    · go_enter Try.func3, Try.ntmps3
      go_wp2_with fail
      refine (bytes_ok _ _ _ _ _ _ _ _ (by omega)).mono ?_
      rintro e w' ⟨rfl, rfl⟩
      go_wp2_with fail
      refine (zzspace _ _ _ [] 0 _ d false 0 false (by rfl) (by omega) (by omega) _ rd_nil rfl (by simp)).mono ?_
      rintro e w3 ⟨rfl, hb3⟩
      go_wp2
      refine wp_loop_rounds 1 ?_
      rw [rounds_succ]
      go_wp2_with fail
      refine (zzspace _ _ _ [] 0 _ d false 0 false (by rfl) (by omega) (by omega) _ rd_nil rfl (by simp)).mono ?_
      rintro e w4 ⟨rfl, hb4⟩
      go_wp2
      go_ret
      exact ⟨rfl, hb3.trans (hb4.mono hb3.size)⟩
    · go_enter Try.func3, Try.ntmps3
      go_wp2_with fail
      refine (bytes_ok _ _ _ _ _ _ _ _ (by omega)).mono ?_
      rintro e w' ⟨rfl, rfl⟩
      go_wp2_with fail
      refine (zzspace _ _ _ [] 0 _ d true 0 true (by rfl) (by omega) (by omega) _ rd_nil rfl (by simp)).mono ?_
      rintro e w3 ⟨rfl, hb3⟩
      go_wp2
      refine wp_loop_rounds 1 ?_
      rw [rounds_succ]
      go_wp2_with fail
      refine (zzspace _ _ _ [] 0 _ d true 0 true (by rfl) (by omega) (by omega) _ rd_nil rfl (by simp)).mono ?_
      rintro e w4 ⟨rfl, hb4⟩
      go_wp2
      go_ret
      exact ⟨rfl, hb3.trans (hb4.mono hb3.size)⟩
  · go_enter Try.func3, Try.ntmps3
    go_wp2_with fail
    refine (bytes_ok _ _ _ _ _ _ _ _ (by omega)).mono ?_
    rintro e w' ⟨rfl, rfl⟩
    go_wp2_with fail
    refine (zzspace _ _ _ [] i _ d sp i sp (by rfl) (by omega) (by omega) _ rd_nil (Pl.SP_past [] i (Nat.zero_le _)) hsp).mono ?_
    rintro e w3 ⟨rfl, hb3⟩
    go_wp2_with fail
    refine (zzspace _ _ _ [] i _ d sp i sp (by rfl) (by omega) (by omega) _ rd_nil (Pl.SP_past [] i (Nat.zero_le _)) hsp).mono ?_
    rintro e w4 ⟨rfl, hb4⟩
    go_wp2
    go_ret
    exact ⟨ret_bool (by simp), hb3.trans (hb4.mono hb3.size)⟩

theorem fn_walk (a0 : Option Addr) (len0 cap0 : Nat) (z0 : List Int) (a1 : Int) (a2 : Int) (a3 : Bool) (a4 : Int) (w : World) (w0 : IsRow .u8 w a0 len0 cap0 z0) (w1 : (Lit.int .i64 a1).wf = true) (w2 : (Lit.int .i64 a2).wf = true) (w4 : (Lit.int .i64 a4).wf = true) :
    Calls Try.prog 3 #[.slice a0 len0 cap0, .int .i64 a1, .int .i64 a2, .bool a3, .int .i64 a4] w fun e w' => e = .returned (.bool true) ∧ Below w.heap.size w w' := by
  obtain ⟨i1, i2⟩ := bounds_i64 w1
  by_cases hl : len0 ≤ 1048576
  · by_cases hi : 0 ≤ a1
    · by_cases hk : a4 < 0 ∨ (len0 : Int) < a4
      · exact fn_cut a0 len0 cap0 a1 a2 a4 a3 w hl hi hk
      · obtain ⟨i, rfl⟩ := Int.eq_ofNat_of_zero_le hi
        obtain ⟨k, rfl⟩ := Int.eq_ofNat_of_zero_le (show 0 ≤ a4 by omega)
        rcases w0 with ⟨rfl, rfl, rfl, rfl⟩ | ⟨x, rfl, hlc, hcm, hz, hcell, hwf⟩
        · have hk0 : k = 0 := by omega
          subst hk0
          exact fn_nil i a2 a3 (by omega) w
        · have HC : Hid (∀ i, i < len0 → w.cell? (x.add i) = some (.int .u8 ((z0.take len0).getD i 0))) := by
            intro i hi
            rw [hcell i (by omega)]
            simp [List.getD, hi]
          have HZ : Hid ((z0.take len0).length = len0) := by show (z0.take len0).length = len0; simp; omega
          generalize z0.take len0 = bs at *
          by_cases hp : len0 < i
          · exact fn_past x len0 cap0 bs i k a2 a3 hl (by omega) (by omega) hp w HZ HC
          · have hge := Pl.SP_ge bs i
            have hle := Pl.SP_le bs i (by rw [HZ.out]; omega)
            rw [HZ.out] at hle
            cases a3
            · by_cases hm : i < Pl.SP bs i
              · exact fn_in_more x len0 cap0 bs i k _ a2 hl (by omega) (by omega) hge hle hm w HZ HC rfl
              · exact fn_in_none x len0 cap0 bs i k _ a2 hl (by omega) (by omega) hge hle (by omega) w HZ HC rfl
            · exact fn_in_true x len0 cap0 bs i k _ a2 hl (by omega) (by omega) hge hle w HZ HC rfl
    · exact fn_neg a0 len0 cap0 a1 a2 a4 a3 w hl (by omega)
  · exact fn_long a0 len0 cap0 a1 a2 a4 a3 w hl
end Go.Proofs.Qxb6618360a
