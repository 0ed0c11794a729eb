/-
  WALKS of seat b6618384a: sameMsg, pop, ZZPop.
-/
import Derived.Test.Qxb6618384aChecked
import Derived.Test.Qxb6618384aShape
import Derived.Deep.QuietTactic
import Derived.BigQuiet
namespace Go.Proofs.Qxb6618384a
open Go.RowKit
set_option linter.unusedVariables false

theorem plain_of {w : World} {a : Addr} {u : Value} (h : w.cell? (a.add 0) = some u) : ∃ g off, a = ⟨g, off, none⟩ := by
  obtain ⟨g, off, spot⟩ := a
  have hs : spot = none := by simpa [Addr.add] using World.cell?_spot h
  exact ⟨g, off, by rw [hs]⟩

theorem same_nil (w : World) : Calls Try.prog 8 #[.slice none 0 0, .slice none 0 0] w fun e w' => e = .returned (.bool true) ∧ ∃ m, w' = w.drewN m := by
  have hnn := fun wx => Lib.run_eql_slice_nil (P := Try.prog) wx 28 5 none 0 0 0 0 Try.underlying28
  go_enter Try.func8, Try.ntmps8
  go_wp2
  refine wp_loop_rounds 1 ?_
  rw [rounds_succ]
  go_wp2
  go_ret
  exact ⟨rfl, 0, rfl⟩

set_option maxHeartbeats 1000000 in
theorem same_some (a b : Addr) (n c c' : Nat) (bs : List Int) (hn : n ≤ 1048576) (w : World) (ha : ∀ k, k < n → w.cell? (a.add k) = some (.int .u8 (bs.getD k 0))) (hb : ∀ k, k < n → w.cell? (b.add k) = some (.int .u8 (bs.getD k 0))) :
    Calls Try.prog 8 #[.slice (some a) n c, .slice (some b) n c'] w fun e w' => e = .returned (.bool true) ∧ ∃ m, w' = w.drewN m := by
  have hnn := fun wx x n c => Lib.run_eql_slice_nil (P := Try.prog) wx 28 5 (some x) n c 0 0 Try.underlying28
  have HA := hide ha
  have HB := hide hb
  clear ha hb
  go_enter Try.func8, Try.ntmps8
  go_wp2
  go_loopw [5] (fun j wr => ∃ k : Nat, k ≤ n ∧ j = .int .i64 k ∧ Hid (∃ m, wr = w.drewN m)) (fun j _ => n - (intOf j).toNat)
  case atStart => exact ⟨0, by omega, rfl, 0, rfl⟩
  case round =>
    obtain ⟨k, hk, rfl, ⟨m, rfl⟩⟩ := hrel
    by_cases hlt : k < n
    · obtain ⟨g, off, rfl⟩ := plain_of (HA.out 0 (by omega))
      obtain ⟨g', off', rfl⟩ := plain_of (HB.out 0 (by omega))
      have h1 := HA.out k hlt
      have h2 := HB.out k hlt
      rw [Addr.add_lit] at h1 h2
      have b1 : (0 : Int) ≤ (k : Int) := by omega
      have b2 : (k : Int) < (n : Int) := by omega
      go_wp2
      go_quiet (fail)
      go_wp2
      go_roundw
      case rel => exact ⟨k + 1, by omega, by go_num, _, rfl⟩
      case measure => simp [intOf]; omega
    · go_wp2
      go_ret
      exact ⟨rfl, m, rfl⟩

set_option maxHeartbeats 1000000 in
/-- pop: queue i begins at slot s of block g. -/
theorem pop_any (T g n i s l cp : Nat) (hn : n ≤ 1048576) (hi : i < n) (hl : 1 ≤ l) (hlc : l ≤ cp) (hcp : cp ≤ 1048576) (hTg : T ≠ g) (w : World) (v0 : Value)
    (hT : w.cell? ⟨T, i, none⟩ = some (.slice (some ⟨g, s, none⟩) l cp)) (hTf : w.frozen? ⟨T, i, none⟩ = false) (hg : w.cell? ⟨g, s, none⟩ = some v0) (hgf : w.frozen? ⟨g, s, none⟩ = false) :
    Calls Try.prog 9 #[.slice (some ⟨T, 0, none⟩) n n, .int .i64 i] w fun e w' => e = .returned (.tuple #[]) ∧
      ∃ a', (2 ≤ cp → a' = ⟨g, s + 1, none⟩) ∧ w' = (w.setCell ⟨g, s, none⟩ (.slice none 0 0)).setCell ⟨T, i, none⟩ (.slice (some a') (l - 1) (cp - 1)) := by
  have k1 : (w.setCell ⟨g, s, none⟩ (.slice none 0 0)).cell? ⟨T, i, none⟩ = some (.slice (some ⟨g, s, none⟩) l cp) :=
    (World.cell?_of_block (w := w) (a := ⟨T, i, none⟩) (Below.heap_setCell w ⟨g, s, none⟩ (.slice none 0 0) T hTg)).trans hT
  have k2 : (w.setCell ⟨g, s, none⟩ (.slice none 0 0)).frozen? ⟨T, i, none⟩ = false :=
    (World.frozen?_of_block (w := w) (a := ⟨T, i, none⟩) (Below.heap_setCell w ⟨g, s, none⟩ (.slice none 0 0) T hTg)).trans hTf
  by_cases hc1 : cp = 1
  · subst hc1
    obtain rfl : l = 1 := by omega
    go_enter Try.func9, Try.ntmps9
    go_wp2
    go_end0
    exact ⟨rfl, ⟨g, s, none⟩, fun h => absurd h (by omega), rfl⟩
  · go_enter Try.func9, Try.ntmps9
    go_wp2
    go_end0
    exact ⟨rfl, ⟨g, s + 1, none⟩, fun h => rfl, rfl⟩

theorem zzpop_any (T g n i s l cp : Nat) (hn : n ≤ 1048576) (hi : i < n) (hl : 1 ≤ l) (hlc : l ≤ cp) (hcp : cp ≤ 1048576) (hTg : T ≠ g) (w : World) (v0 : Value)
    (hT : w.cell? ⟨T, i, none⟩ = some (.slice (some ⟨g, s, none⟩) l cp)) (hTf : w.frozen? ⟨T, i, none⟩ = false) (hg : w.cell? ⟨g, s, none⟩ = some v0) (hgf : w.frozen? ⟨g, s, none⟩ = false) :
    Calls Try.prog 7 #[.slice (some ⟨T, 0, none⟩) n n, .int .i64 i] w fun e w' => e = .returned (.tuple #[]) ∧
      ∃ a', (2 ≤ cp → a' = ⟨g, s + 1, none⟩) ∧ w' = (w.setCell ⟨g, s, none⟩ (.slice none 0 0)).setCell ⟨T, i, none⟩ (.slice (some a') (l - 1) (cp - 1)) := by
  go_enter Try.func7, Try.ntmps7
  go_wp2_with fail
  refine (pop_any T g n i s l cp hn hi hl hlc hcp hTg w v0 hT hTf hg hgf).mono ?_
  rintro e w' ⟨rfl, a', ha, hw⟩
  have HW := hide hw
  have HA := hide ha
  clear hw ha
  go_wp2
  go_end0
  exact ⟨rfl, a', HA.out, HW.out⟩
end Go.Proofs.Qxb6618384a
