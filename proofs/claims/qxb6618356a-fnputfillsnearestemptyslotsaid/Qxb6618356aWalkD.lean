/-
  WALKS of seat b6618356a: FnPutFillsNearestEmptySlot, the ways that answer true at once.
-/
import Derived.Test.Qxb6618356aWalkC
namespace Go.Proofs.Qxb6618356a
open Go.RowKit
set_option linter.unusedVariables false

theorem bytes_any (a0 a1 : Option Addr) (n0 n1 c0 c1 : Nat) (n h p : Int) (w : World) :
    Calls Try.prog 5 #[.slice a0 n0 c0, .slice a1 n1 c1, .int .i64 n, .int .u64 h, .int .i64 p] w fun e w' => ∃ b, e = .returned (.bool b) ∧ w = w' := by
  go_enter Try.func5, Try.ntmps5
  go_wp2
  all_goals (go_ret; exact ⟨_, rfl, rfl⟩)

theorem bytes_ok (a0 a1 : Option Addr) (n0 n1 c0 c1 : Nat) (n h p : Int) (w : World) (h0 : n0 ≤ 65536) (h1 : n1 ≤ 65536) :
    Calls Try.prog 5 #[.slice a0 n0 c0, .slice a1 n1 c1, .int .i64 n, .int .u64 h, .int .i64 p] w fun e w' => e = .returned (.bool true) ∧ w = w' := by
  go_enter Try.func5, Try.ntmps5
  go_wp2
  go_ret
  exact ⟨rfl, rfl⟩

theorem fn_long (a0 a1 : Option Addr) (n0 n1 c0 c1 : Nat) (n h p : Int) (w : World) (hl : ¬ (n0 ≤ 65536 ∧ n1 ≤ 65536)) :
    Calls Try.prog 3 #[.slice a0 n0 c0, .slice a1 n1 c1, .int .i64 n, .int .u64 h, .int .i64 p] w fun e w' => e = .returned (.bool true) ∧ Below w.heap.size w w' := by
  by_cases h0 : n0 ≤ 65536
  · have h1 : ¬ n1 ≤ 65536 := fun h1 => hl ⟨h0, h1⟩
    clear hl
    go_enter Try.func3, Try.ntmps3
    go_wp2_with (go_at_call 5; refine (bytes_any _ _ _ _ _ _ _ _ _ _).mono ?_; rintro e w' ⟨b, rfl, rfl⟩)
    all_goals (go_ret; exact ⟨rfl, Below.refl _ _⟩)
  · clear hl
    go_enter Try.func3, Try.ntmps3
    go_wp2_with (go_at_call 5; refine (bytes_any _ _ _ _ _ _ _ _ _ _).mono ?_; rintro e w' ⟨b, rfl, rfl⟩)
    all_goals (go_ret; exact ⟨rfl, Below.refl _ _⟩)

theorem fn_zero (a0 a1 : Option Addr) (n1 c0 c1 : Nat) (n h p : Int) (w : World) (h1 : n1 ≤ 65536) :
    Calls Try.prog 3 #[.slice a0 0 c0, .slice a1 n1 c1, .int .i64 n, .int .u64 h, .int .i64 p] w fun e w' => e = .returned (.bool true) ∧ Below w.heap.size w w' := by
  go_enter Try.func3, Try.ntmps3
  go_wp2_with (go_at_call 5; refine (bytes_ok _ _ _ _ _ _ _ _ _ _ (by omega) h1).mono ?_; rintro e w' ⟨rfl, rfl⟩)
  go_ret
  exact ⟨rfl, Below.refl _ _⟩

theorem fn_npow (a0 a1 : Option Addr) (n0 n1 c0 c1 : Nat) (n h p : Int) (w : World) (h0 : n0 ≤ 65536) (h1 : n1 ≤ 65536) (hz : 1 ≤ n0) (hb : (bits .and .i64 (n0 : Int) ((n0 : Int) - 1) != 0) = true) :
    Calls Try.prog 3 #[.slice a0 n0 c0, .slice a1 n1 c1, .int .i64 n, .int .u64 h, .int .i64 p] w fun e w' => e = .returned (.bool true) ∧ Below w.heap.size w w' := by
  have hz0 : ((n0 : Int) == 0) = false := beq_eq_false_iff_ne.2 (by omega)
  go_enter Try.func3, Try.ntmps3
  go_wp2_with (go_at_call 5; refine (bytes_ok _ _ _ _ _ _ _ _ _ _ h0 h1).mono ?_; rintro e w' ⟨rfl, rfl⟩)
  go_ret
  exact ⟨rfl, Below.refl _ _⟩

theorem fn_len (a0 a1 : Option Addr) (n0 n1 c0 c1 : Nat) (n h p : Int) (w : World) (h0 : n0 ≤ 65536) (h1 : n1 ≤ 65536) (hz : 1 ≤ n0) (hb : (bits .and .i64 (n0 : Int) ((n0 : Int) - 1) != 0) = false) (hne : n1 ≠ n0) :
    Calls Try.prog 3 #[.slice a0 n0 c0, .slice a1 n1 c1, .int .i64 n, .int .u64 h, .int .i64 p] w fun e w' => e = .returned (.bool true) ∧ Below w.heap.size w w' := by
  have hz0 : ((n0 : Int) == 0) = false := beq_eq_false_iff_ne.2 (by omega)
  have hn : ((n1 : Int) != (n0 : Int)) = true := by rw [bne_iff_ne]; omega
  clear hne
  go_enter Try.func3, Try.ntmps3
  go_wp2_with (go_at_call 5; refine (bytes_ok _ _ _ _ _ _ _ _ _ _ h0 h1).mono ?_; rintro e w' ⟨rfl, rfl⟩)
  go_ret
  exact ⟨rfl, Below.refl _ _⟩

set_option maxRecDepth 100000 in
theorem fn_place (a0 a1 : Option Addr) (m c0 c1 : Nat) (n h p : Int) (w : World) (h0 : m ≤ 65536) (hz : 1 ≤ m) (hb : (bits .and .i64 (m : Int) ((m : Int) - 1) != 0) = false) (hp : p < 0 ∨ 4294967295 < p) :
    Calls Try.prog 3 #[.slice a0 m c0, .slice a1 m c1, .int .i64 n, .int .u64 h, .int .i64 p] w fun e w' => e = .returned (.bool true) ∧ Below w.heap.size w w' := by
  have hz0 : ((m : Int) == 0) = false := beq_eq_false_iff_ne.2 (by omega)
  rcases hp with hp | hp
  · go_enter Try.func3, Try.ntmps3
    go_wp2_with (go_at_call 5; refine (bytes_ok _ _ _ _ _ _ _ _ _ _ h0 h0).mono ?_; rintro e w' ⟨rfl, rfl⟩)
    go_ret
    exact ⟨rfl, Below.refl _ _⟩
  · have hp0 : ¬ p < 0 := by omega
    go_enter Try.func3, Try.ntmps3
    go_wp2_with (go_at_call 5; refine (bytes_ok _ _ _ _ _ _ _ _ _ _ h0 h0).mono ?_; rintro e w' ⟨rfl, rfl⟩)
    go_ret
    exact ⟨rfl, Below.refl _ _⟩

set_option maxRecDepth 100000 in
theorem fn_full (g off : Nat) (a1 : Option Addr) (m c0 c1 : Nat) (n h p : Int) (w : World) (zs : List Int) (h0 : m ≤ 65536) (hz : 1 ≤ m) (hb : (bits .and .i64 (m : Int) ((m : Int) - 1) != 0) = false) (hp0 : 0 ≤ p) (hp1 : p ≤ 4294967295)
    (hc : Hid (∀ k, k < m → w.cell? ⟨g, off + k, none⟩ = some (.int .u8 (zs.getD k 0)))) (hno : Hid (¬ ∃ k, k < m ∧ zs.getD k 0 = 0)) :
    Calls Try.prog 3 #[.slice (some ⟨g, off, none⟩) m c0, .slice a1 m c1, .int .i64 n, .int .u64 h, .int .i64 p] w fun e w' => e = .returned (.bool true) ∧ Below w.heap.size w w' := by
  have hz0 : ((m : Int) == 0) = false := beq_eq_false_iff_ne.2 (by omega)
  go_enter Try.func3, Try.ntmps3
  go_wp2_with (first | (go_at_call 5; refine (bytes_ok _ _ _ _ _ _ _ _ _ _ h0 h0).mono ?_; rintro e w' ⟨rfl, rfl⟩) | (go_at_call 6; refine (empty_any g off m _ zs h0 _ hc.out).mono ?_; rintro e w' ⟨t, rfl, ht, ht', htm, rfl⟩; have ht1 : t < 1 := Nat.lt_of_not_le (fun h => hno.out (ht h)); clear ht ht'))
  go_ret
  exact ⟨rfl, Below.refl _ _⟩
end Go.Proofs.Qxb6618356a
