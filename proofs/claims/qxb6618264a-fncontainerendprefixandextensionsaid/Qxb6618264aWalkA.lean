/-
  WALKS of seat b6618264a: stringEnd, containerEnd, ZZcontainerEnd.
-/
import Derived.Test.Qxb6618264aChecked
import Derived.Test.Qxb6618264aPlain
import Derived.WalkKit
import Derived.WalkSpells
namespace Go.Proofs.Qxb6618264a
open Go.RowKit
set_option linter.unusedVariables false

theorem hide {p : Prop} (h : p) : Hid p := h
theorem ret_int {k : IntKind} {a b : Int} (h : a = b) : Ending.returned (.int k a) = .returned (.int k b) := by rw [h]

theorem is_of {bs : List Int} {k : Nat} {v : Int} (h : (bs[k]?.getD 0 == v) = true) : bs.getD k 0 = v := by simpa [List.getD] using h
theorem isnt_of {bs : List Int} {k : Nat} {v : Int} (h : (bs[k]?.getD 0 == v) = false) : bs.getD k 0 ≠ v := by simpa [List.getD] using h

theorem neither_of {bs : List Int} {k : Nat} {u v : Int} (h : (bs[k]?.getD 0 == u) = false) (h' : (bs[k]?.getD 0 == v) = false) : ¬ (bs.getD k 0 = u ∨ bs.getD k 0 = v) := by
  rintro (e | e)
  · exact isnt_of h e
  · exact isnt_of h' e
theorem of_beq {d : Int} (h : (d - 1 == 0) = true) : d = 1 := by have := eq_of_beq h; omega
theorem of_nbeq {d : Int} (h : (d - 1 == 0) = false) : d ≠ 1 := by intro e; subst e; simp at h

set_option maxHeartbeats 400000 in
theorem stringEnd_any (g off n c : Nat) (bs : List Int) (hl : bs.length = n) (hn : n ≤ 1048576) (i : Nat) (hi : i < n) (w : World)
    (hc : ∀ k, k < n → w.cell? ⟨g, off + k, none⟩ = some (.int .u8 (bs.getD k 0))) :
    Calls Try.prog 26 #[.slice (some ⟨g, off, none⟩) n c, .int .i64 i] w fun e w' => e = .returned (.int .i64 (Pl.SE bs (i + 1) : Nat)) ∧ w' = w := by
  have HL : Hid (bs.length = n) := hl
  clear hl
  go_enter Try.func26, Try.ntmps26
  go_wp2
  go_loop [5] (fun j => ∃ k : Nat, k ≤ n + 1 ∧ j = .int .i64 k ∧ Hid (Pl.SE bs k = Pl.SE bs (i + 1))) (fun j => n + 1 - (intOf j).toNat)
  case atStart => exact ⟨i + 1, by omega, by go_num, rfl⟩
  case round =>
    obtain ⟨k, hk, rfl, hS⟩ := hrel
    by_cases hlt : k < n
    · have hcell := hc k hlt
      clear hc
      go_wp2
      · have t1 : (bs[k]?.getD 0 == 92) = true := by assumption
        go_round
        case rel => exact ⟨k + 2, by omega, by go_num, by rw [← hS.out]; exact (Pl.SE_esc bs k (by rw [HL.out]; exact hlt) (is_of t1)).symm⟩
        case measure => simp [intOf]; omega
      · have t2 : (bs[k]?.getD 0 == 34) = true := by assumption
        go_ret
        exact ⟨ret_int (by rw [← hS.out, Pl.SE_quote bs k (by rw [HL.out]; exact hlt) (is_of t2)]; omega), rfl⟩
      · have t1 : (bs[k]?.getD 0 == 92) = false := by assumption
        have t2 : (bs[k]?.getD 0 == 34) = false := by assumption
        go_round
        case rel => exact ⟨k + 1, by omega, by go_num, by rw [← hS.out]; exact (Pl.SE_other bs k (by rw [HL.out]; exact hlt) (isnt_of t1) (isnt_of t2)).symm⟩
        case measure => simp [intOf]; omega
    · go_wp2
      go_ret
      exact ⟨ret_int (by rw [← hS.out, Pl.SE_end bs k (by rw [HL.out]; omega), HL.out]), rfl⟩

set_option maxHeartbeats 1000000 in
theorem containerEnd_pos (g off n c : Nat) (bs : List Int) (hl : bs.length = n) (hn : n ≤ 1048576) (i : Nat) (hi : i ≤ n) (w : World)
    (hc : ∀ k, k < n → w.cell? ⟨g, off + k, none⟩ = some (.int .u8 (bs.getD k 0))) :
    Calls Try.prog 24 #[.slice (some ⟨g, off, none⟩) n c, .int .i64 i] w fun e w' => e = .returned (.int .i64 (Pl.CE bs i 0 : Nat)) ∧ w' = w := by
  have HL : Hid (bs.length = n) := hl
  have HC := hide hc
  clear hl hc
  go_enter Try.func24, Try.ntmps24
  go_wp2
  go_loop [5, 6] (fun dd j => ∃ (d : Int) (k : Nat), k ≤ n ∧ -(k : Int) ≤ d ∧ d ≤ k ∧ dd = .int .i64 d ∧ j = .int .i64 k ∧ Hid (Pl.CE bs k d = Pl.CE bs i 0)) (fun _ j => n - (intOf j).toNat)
  case atStart => exact ⟨0, i, by omega, by omega, by omega, rfl, rfl, rfl⟩
  case round =>
    obtain ⟨d, k, hk, hd1, hd2, rfl, rfl, hS⟩ := hrel
    by_cases hlt : k < n
    · have hcell := HC.out k hlt
      have hse := Pl.SE_ge bs (k + 1) (by rw [HL.out]; omega)
      rw [HL.out] at hse
      obtain ⟨hse1, hse2⟩ := hse
      go_wp2_with (go_at_call 26; refine (stringEnd_any g off n c bs HL.out hn k hlt _ HC.out).mono ?_; rintro e w' ⟨rfl, rfl⟩)
      · have t1 : (bs[k]?.getD 0 == 34) = true := by assumption
        go_round
        case rel => exact ⟨d, Pl.SE bs (k + 1), by omega, by omega, by omega, rfl, rfl, by rw [← hS.out]; exact (Pl.CE_quote bs k d (by rw [HL.out]; exact hlt) (is_of t1)).symm⟩
        case measure => simp [intOf]; omega
      · have t1 : (bs[k]?.getD 0 == 123) = true := by assumption
        go_round
        case rel => exact ⟨d + 1, k + 1, by omega, by omega, by omega, rfl, by go_num, by rw [← hS.out]; exact (Pl.CE_open bs k d (by rw [HL.out]; exact hlt) (Or.inl (is_of t1))).symm⟩
        case measure => simp [intOf]; omega
      · have t1 : (bs[k]?.getD 0 == 91) = true := by assumption
        go_round
        case rel => exact ⟨d + 1, k + 1, by omega, by omega, by omega, rfl, by go_num, by rw [← hS.out]; exact (Pl.CE_open bs k d (by rw [HL.out]; exact hlt) (Or.inr (is_of t1))).symm⟩
        case measure => simp [intOf]; omega
      · have t1 : (bs[k]?.getD 0 == 125) = true := by assumption
        have t2 : (d - 1 == 0) = true := by assumption
        go_ret
        exact ⟨ret_int (by rw [← hS.out, Pl.CE_done bs k d (by rw [HL.out]; exact hlt) (Or.inl (is_of t1)) (of_beq t2)]; omega), rfl⟩
      · have t1 : (bs[k]?.getD 0 == 125) = true := by assumption
        have t2 : (d - 1 == 0) = false := by assumption
        go_round
        case rel => exact ⟨d - 1, k + 1, by omega, by omega, by omega, rfl, by go_num, by rw [← hS.out]; exact (Pl.CE_close bs k d (by rw [HL.out]; exact hlt) (Or.inl (is_of t1)) (of_nbeq t2)).symm⟩
        case measure => simp [intOf]; omega
      · have t1 : (bs[k]?.getD 0 == 93) = true := by assumption
        have t2 : (d - 1 == 0) = true := by assumption
        go_ret
        exact ⟨ret_int (by rw [← hS.out, Pl.CE_done bs k d (by rw [HL.out]; exact hlt) (Or.inr (is_of t1)) (of_beq t2)]; omega), rfl⟩
      · have t1 : (bs[k]?.getD 0 == 93) = true := by assumption
        have t2 : (d - 1 == 0) = false := by assumption
        go_round
        case rel => exact ⟨d - 1, k + 1, by omega, by omega, by omega, rfl, by go_num, by rw [← hS.out]; exact (Pl.CE_close bs k d (by rw [HL.out]; exact hlt) (Or.inr (is_of t1)) (of_nbeq t2)).symm⟩
        case measure => simp [intOf]; omega
      · have t1 : (bs[k]?.getD 0 == 34) = false := by assumption
        have t2 : (bs[k]?.getD 0 == 123) = false := by assumption
        have t3 : (bs[k]?.getD 0 == 91) = false := by assumption
        have t4 : (bs[k]?.getD 0 == 125) = false := by assumption
        have t5 : (bs[k]?.getD 0 == 93) = false := by assumption
        go_round
        case rel => exact ⟨d, k + 1, by omega, by omega, by omega, rfl, by go_num, by rw [← hS.out]; exact (Pl.CE_other bs k d (by rw [HL.out]; exact hlt) (isnt_of t1) (neither_of t2 t3) (neither_of t4 t5)).symm⟩
        case measure => simp [intOf]; omega
    · go_wp2
      go_ret
      exact ⟨ret_int (by rw [← hS.out, show k = bs.length by rw [HL.out]; omega, Pl.CE_end bs, HL.out]), rfl⟩

/-- Past the end, or of a slice without an element: the loop is not entered. -/
theorem containerEnd_past (a : Option Addr) (n c : Nat) (hn : n ≤ 1048576) (i : Int) (hi : (n : Int) ≤ i) (hi2 : i ≤ 9223372036854775807) (w : World) :
    Calls Try.prog 24 #[.slice a n c, .int .i64 i] w fun e w' => e = .returned (.int .i64 (n : Int)) ∧ w' = w := by
  go_enter Try.func24, Try.ntmps24
  go_wp2
  refine wp_loop_rounds 1 ?_
  rw [rounds_succ]
  go_wp2
  go_ret
  exact ⟨rfl, rfl⟩

theorem zz_pos (g off n c : Nat) (bs : List Int) (hl : bs.length = n) (hn : n ≤ 1048576) (i : Nat) (hi : i ≤ n) (w : World)
    (hc : ∀ k, k < n → w.cell? ⟨g, off + k, none⟩ = some (.int .u8 (bs.getD k 0))) :
    Calls Try.prog 12 #[.slice (some ⟨g, off, none⟩) n c, .int .i64 i] w fun e w' => e = .returned (.int .i64 (Pl.CE bs i 0 : Nat)) ∧ w = w' := by
  have HL : Hid (bs.length = n) := hl
  have HC := hide hc
  clear hl hc
  go_enter Try.func12, Try.ntmps12
  go_wp2_with (go_at_call 24; refine (containerEnd_pos g off n c bs HL.out hn i hi _ HC.out).mono ?_; rintro e w' ⟨rfl, rfl⟩)
  go_ret
  exact ⟨rfl, rfl⟩

theorem zz_past (a : Option Addr) (n c : Nat) (hn : n ≤ 1048576) (i : Int) (hi : (n : Int) ≤ i) (hi2 : i ≤ 9223372036854775807) (w : World) :
    Calls Try.prog 12 #[.slice a n c, .int .i64 i] w fun e w' => e = .returned (.int .i64 (n : Int)) ∧ w = w' := by
  go_enter Try.func12, Try.ntmps12
  go_wp2_with (go_at_call 24; refine (containerEnd_past a n c hn i hi hi2 _).mono ?_; rintro e w' ⟨rfl, rfl⟩)
  go_ret
  exact ⟨rfl, rfl⟩
end Go.Proofs.Qxb6618264a
