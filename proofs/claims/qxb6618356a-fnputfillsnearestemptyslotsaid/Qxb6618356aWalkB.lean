/-
  WALKS of seat b6618356a: put.
-/
import Derived.Test.Qxb6618356aWalkA
import Derived.RegionTactic
import Derived.ChangeAlike
import Derived.Deep.RegionHeld3
import Derived.Deep.DrawnRows
namespace Go.Proofs.Qxb6618356a
open Go.RowKit
set_option linter.unusedVariables false

theorem and_mask (m x : Nat) (hm : ∃ e, m = 2 ^ e) (hm1 : m ≤ 65536) (hm0 : 1 ≤ m) (hx : x < 18446744073709551616) : bits .and .u64 (x : Int) ((m : Int) - 1) = ((x % m : Nat) : Int) := by
  rw [show (m : Int) - 1 = ((m - 1 : Nat) : Int) by omega, u64_and_nat x (m - 1) hx (by omega), Pl.mask m x hm]

theorem and_mask1 (m x : Nat) (hm : ∃ e, m = 2 ^ e) (hm1 : m ≤ 65536) (hm0 : 1 ≤ m) (hx : x < m) : bits .and .u64 ((x : Int) + 1) ((m : Int) - 1) = (((x + 1) % m : Nat) : Int) := by
  rw [← and_mask m (x + 1) hm hm1 hm0 (by omega), show ((x + 1 : Nat) : Int) = (x : Int) + 1 by omega]

theorem cell_far {w : World} {T i X j : Nat} (v : Value) {u : Value} (h : w.cell? ⟨X, j, none⟩ = some u) (hne : X ≠ T) : (w.setCell ⟨T, i, none⟩ v).cell? ⟨X, j, none⟩ = some u :=
  (World.cell?_of_block (w := w) (a := ⟨X, j, none⟩) (Below.heap_setCell w ⟨T, i, none⟩ v X hne)).trans h
theorem frozen_far {w : World} {T i X j : Nat} (v : Value) (h : w.frozen? ⟨X, j, none⟩ = false) (hne : X ≠ T) : (w.setCell ⟨T, i, none⟩ v).frozen? ⟨X, j, none⟩ = false :=
  (World.frozen?_of_block (w := w) (a := ⟨X, j, none⟩) (Below.heap_setCell w ⟨T, i, none⟩ v X hne)).trans h

theorem wrap_place (p : Nat) (h : p < 4294967296) : IntKind.u32.wrap (p : Int) = (p : Int) := by
  rw [IntKind.wrap_u32']; omega

set_option maxHeartbeats 1000000 in
theorem put_any (X T Pb m : Nat) (ts ps : List Int) (D h place : Nat) (hts : ts.length = m) (hps : ps.length = m) (hm0 : 1 ≤ m) (hm1 : m ≤ 65536) (hm2 : ∃ e, m = 2 ^ e) (hh : h < 18446744073709551616) (hp : place < 4294967296)
    (hF : Pl.First ts m (h % m) D) (hTP : T ≠ Pb) (hXT : X ≠ T) (hXP : X ≠ Pb) (w : World)
    (hx0 : w.cell? ⟨X, 0, none⟩ = some (.slice (some ⟨T, 0, none⟩) m m)) (hx1 : w.cell? ⟨X, 1, none⟩ = some (.slice (some ⟨Pb, 0, none⟩) m m)) (bT : Blk w T 5 .u8 ts) (bP : Blk w Pb 31 .u32 ps) :
    Calls Try.prog 12 #[.pointer (some ⟨X, 0, none⟩), .int .u64 h, .int .i64 place] w fun e w' => e = .returned (.tuple #[]) ∧
      w'.Alike ((w.setCell ⟨T, (h % m + D) % m, none⟩ (.int .u8 (128 + (h : Int) / 144115188075855872))).setCell ⟨Pb, (h % m + D) % m, none⟩ (.int .u32 place)) ∧ w'.tape = w.tape := by
  have hsm : h % m < m := Nat.mod_lt _ (by omega)
  have hk0 := and_mask m h hm2 hm1 hm0 hh
  generalize h % m = s at *
  have HM := hide hm2
  have HF := hide hF
  have HTs := hide hts
  have HPs := hide hps
  clear hm2 hF hts hps
  go_enter Try.func12, Try.ntmps12
  go_wp2
  go_loop [7] (fun j => ∃ d : Nat, d ≤ D ∧ j = .int .u64 (((s + d) % m : Nat) : Int)) (fun j => D - Pl.dist m s (intOf j).toNat)
  case atStart => exact ⟨0, by omega, by rw [Nat.add_zero, Nat.mod_eq_of_lt hsm]⟩
  case round =>
    obtain ⟨d, hd, rfl⟩ := hrel
    have hDm := HF.out.1
    have hlt : (s + d) % m < m := Nat.mod_lt _ (by omega)
    have hcell := bT.cell ((s + d) % m) (by rw [HTs.out]; exact hlt)
    have hnx := and_mask1 m ((s + d) % m) HM.out hm1 hm0 hlt
    generalize hi : (s + d) % m = i at *
    have HI := hide hi
    clear hi
    go_wp2
    · have t1 : (ts[i]?.getD 0 != 0) = true := by assumption
      have hdD : d < D := by
        rcases Nat.lt_or_ge d D with h | h
        · exact h
        · exfalso
          have e : d = D := by omega
          have h0 := HF.out.2.1
          rw [← e, HI.out] at h0
          simp [List.getD] at h0
          simp [h0] at t1
      have hn1 : (i + 1) % m = (s + (d + 1)) % m := by rw [← HI.out]; exact Pl.next m s d
      have q1 : Pl.dist m s i = d := by rw [← HI.out]; exact Pl.dist_add m s d hsm (by omega)
      have q2 : Pl.dist m s ((i + 1) % m) = d + 1 := by rw [hn1]; exact Pl.dist_add m s (d + 1) hsm (by omega)
      have e1 : ((i : Int) + 1) % (m : Int) = (((s + (d + 1)) % m : Nat) : Int) := by rw [← hn1, Int.natCast_emod]; simp
      rw [hn1] at q2
      go_round
      case rel => exact ⟨d + 1, by omega, by rw [e1]⟩
      case measure => rw [e1]; simp only [intOf, Int.toNat_natCast, q1, q2]; omega
    · have t1 : (ts[i]?.getD 0 != 0) = false := by assumption
      have hdD : d = D := by
        rcases Nat.lt_or_ge d D with h | h
        · exfalso
          have h0 := HF.out.2.2 d h
          rw [HI.out] at h0
          simp [List.getD] at h0
          simp [h0] at t1
        · omega
      subst hdD
      have hc1 := bP.cell i (by rw [HPs.out]; exact hlt)
      have f0 := bT.frozen i
      have f1 := bP.frozen i
      have bi : (0 : Int) ≤ (i : Int) := by omega
      have bi2 : (i : Int) < (m : Int) := by omega
      clear bT bP hnx t1 hk0
      have k0 := fun v => cell_far (T := T) (i := i) v hx0 hXT
      have k1 := fun v => cell_far (T := T) (i := i) v hx1 hXT
      have k2 := fun v => cell_far (T := T) (i := i) v hc1 (Ne.symm hTP)
      have k3 := fun v => frozen_far (T := T) (i := i) v f1 (Ne.symm hTP)
      have l0 := fun v u => cell_far (T := Pb) (i := i) u (k0 v) hXP
      have l1 := fun v u => cell_far (T := Pb) (i := i) u (k1 v) hXP
      go_region_held3 (fun w' => w'.cell? ⟨X, 0, none⟩ = some (.slice (some ⟨T, 0, none⟩) m m) ∧ w'.cell? ⟨X, 1, none⟩ = some (.slice (some ⟨Pb, 0, none⟩) m m)) (go_keep) (first | (go_at_call 13; refine (tagOf_any _ (by omega) (by omega) _).mono ?_; rintro e w' ⟨rfl, rfl⟩))
      go_wp2
      go_end0
      refine ⟨rfl, ?_, rfl⟩
      rw [HI.out, wrap_place place hp]
      exact ⟨rfl, rfl, rfl⟩
end Go.Proofs.Qxb6618356a
