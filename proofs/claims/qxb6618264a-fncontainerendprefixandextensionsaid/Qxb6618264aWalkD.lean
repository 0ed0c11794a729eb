/-
  WALKS of seat b6618264a: lwJoin3.
-/
import Derived.Test.Qxb6618264aWalkC
namespace Go.Proofs.Qxb6618264a
open Go.RowKit
set_option linter.unusedVariables false

/-- A slice of bytes that can be read: its n elements are zs. -/
def Rd (w : World) (a : Option Addr) (n : Nat) (zs : List Int) : Prop :=
  zs.length = n ∧ (0 < n → ∃ g off, a = some ⟨g, off, none⟩ ∧ ∀ k, k < n → w.cell? ⟨g, off + k, none⟩ = some (.int .u8 (zs.getD k 0)))

theorem Rd.below {w w' : World} {a : Option Addr} {n : Nat} {zs : List Int} (h : Rd w a n zs) (hb : Below w.heap.size w w') : Rd w' a n zs := by
  refine ⟨h.1, fun h0 => ?_⟩
  obtain ⟨g, off, rfl, hc⟩ := h.2 h0
  refine ⟨g, off, rfl, fun k hk => ?_⟩
  have hg : g < w.heap.size := World.block_lt_of_cell? w _ (hc k hk)
  rw [hb.cell (by exact hg)]
  exact hc k hk

theorem Rd.of_row {w : World} {a : Option Addr} {n c : Nat} {zs : List Int} (h : IsRow .u8 w a n c zs) : Rd w a n (zs.take n) := by
  rcases h with ⟨rfl, rfl, rfl, rfl⟩ | ⟨x, rfl, hlc, hcm, hz, hcell, hwf⟩
  · exact ⟨rfl, fun h => absurd h (Nat.lt_irrefl _)⟩
  · refine ⟨by simp; omega, fun h0 => ?_⟩
    obtain ⟨b, off, spot⟩ := x
    have hspot : spot = none := by simpa [Addr.add] using World.cell?_spot (hcell 0 (by omega))
    subst hspot
    refine ⟨b, off, rfl, fun k hk => ?_⟩
    rw [← Addr.add_lit, hcell k (by omega)]
    simp [List.getD, hk]

/-- 'out' behind some rounds: L lies at its head, the rest is nought. -/
def InvJ (w : World) (N : Nat) (L : List Int) (wr : World) : Prop :=
  wr.ownsRow w.heap.size 5 1 (.slice (some ⟨w.heap.size, 0, none⟩) N N) N ((L ++ List.replicate (N - L.length) 0).map (Value.int .u8)) ∧ Below w.heap.size w wr

theorem InvJ.start {w w1 : World} {N : Nat} (h : w1.ownsRow w.heap.size 5 1 (.slice (some ⟨w.heap.size, 0, none⟩) N N) N (madeCells (Value.int .u8 0).cells (N * 1)).toList) (hg : w.grownBy w1 none) : InvJ w N [] w1 := by
  refine ⟨?_, (Below.refl _ _).grown hg (Nat.le_refl _) (fun k e => by cases e)⟩
  have e : (madeCells (Value.int .u8 0).cells (N * 1)).toList = (([] : List Int) ++ List.replicate (N - ([] : List Int).length) 0).map (Value.int .u8) := by
    have := toList_madeCells_one (Value.int .u8 0) (N * 1)
    simpa [Value.cells] using this
  rw [← e]
  exact h

theorem InvJ.cell {w wr : World} {N k : Nat} {L : List Int} (h : InvJ w N L wr) (hk : L.length = k) (hN : k < N) : wr.cell? ⟨w.heap.size, k, none⟩ = some (.int .u8 0) ∧ wr.frozen? ⟨w.heap.size, k, none⟩ = false := by
  obtain ⟨hown, hb⟩ := h
  refine ⟨?_, hown.frozenAt k⟩
  rw [hown.cellAt k (by omega)]
  subst hk
  simp only [List.map_append, List.map_replicate]
  rw [List.getElem?_append_right (by simp), List.getElem?_replicate, if_pos (by simp; omega)]

theorem InvJ.step {w wr : World} {N k : Nat} {L L' : List Int} {v : Int} (h : InvJ w N L wr) (hk : L.length = k) (hN : k < N) (hL : L' = L ++ [v]) : InvJ w N L' (wr.setCell ⟨w.heap.size, k, none⟩ (.int .u8 v)) := by
  obtain ⟨hown, hb⟩ := h
  subst hL
  refine ⟨?_, hb.setCell (Nat.le_refl _) _⟩
  have e : ((L ++ List.replicate (N - L.length) 0).map (Value.int .u8)).set k (.int .u8 v) = ((L ++ [v]) ++ List.replicate (N - (L ++ [v]).length) 0).map (Value.int .u8) := by
    have e1 : N - L.length = (N - (L ++ [v]).length) + 1 := by simp; omega
    rw [e1, List.replicate_succ, ← List.map_set, List.set_append_right _ _ (by omega), hk, Nat.sub_self, List.set_cons_zero, List.append_assoc]
    rfl
  rw [← e]
  exact (hown.stored k _).1

theorem InvJ.fin {w wr : World} {N : Nat} {L : List Int} (h : InvJ w N L wr) (hN : L.length = N) : ∀ k, k < N → wr.cell? ⟨w.heap.size, 0 + k, none⟩ = some (.int .u8 (L.getD k 0)) := by
  obtain ⟨hown, hb⟩ := h
  intro k hk
  rw [hown.cellAt (0 + k) (by omega)]
  simp [hN, hk, List.getD]

theorem take_snoc (zs : List Int) (k : Nat) (h : k < zs.length) : zs.take (k + 1) = zs.take k ++ [zs.getD k 0] := by
  rw [List.take_succ_eq_append_getElem h]
  simp [h]

set_option maxHeartbeats 1000000 in
theorem join3 (a0 a1 a2 : Option Addr) (n0 n1 n2 c0 c1 c2 : Nat) (z0 z1 z2 : List Int) (h0 : n0 ≤ 262144) (h1 : n1 ≤ 262144) (h2 : n2 ≤ 262144) (w : World)
    (r0 : Rd w a0 n0 z0) (r1 : Rd w a1 n1 z1) (r2 : Rd w a2 n2 z2) :
    Calls Try.prog 20 #[.slice a0 n0 c0, .slice a1 n1 c1, .slice a2 n2 c2] w fun e w' => e = .returned (.slice (some ⟨w.heap.size, 0, none⟩) (n0 + n1 + n2) (n0 + n1 + n2)) ∧
      (∀ k, k < n0 + n1 + n2 → w'.cell? ⟨w.heap.size, 0 + k, none⟩ = some (.int .u8 ((z0 ++ z1 ++ z2).getD k 0))) ∧ Below w.heap.size w w' := by
  obtain ⟨i0, hi0, hz0, hz1, hz2⟩ := info_parts Try.info5
  go_enter Try.func20, Try.ntmps20
  go_wp2_with (at_make; refine wpList_make_full _ rfl (.tmp 19) (.tmp 19) 22 rfl w.heap.size 5 i0 (.int .u8 0) 1 Try.underlying22 hi0 hz0 hz1 .i64 .i64 _ _ (n0 + n1 + n2) rfl rfl (by omega) (by omega) (by rw [hz2]; omega) (by unfold maxLen; omega) (Nat.le_refl _) ?_; intro w1 hown hgrow)
  have HI := InvJ.start hown hgrow
  clear hown hgrow hi0 hz0 hz1 hz2
  go_loopw [8, 9] (fun n j wr => ∃ k : Nat, k ≤ n0 ∧ n = .int .i64 k ∧ j = .int .i64 k ∧ InvJ w (n0 + n1 + n2) (z0.take k) wr) (fun _ j _ => n0 - (intOf j).toNat)
  case atStart => exact ⟨0, by omega, rfl, rfl, by simpa using HI⟩
  case round =>
    obtain ⟨k, hk, rfl, rfl, hI⟩ := hrel
    by_cases hlt : k < n0
    · obtain ⟨g, off, rfl, hc⟩ := (r0.below hI.2).2 (by omega)
      have hcell := hc k hlt
      have hl : Hid ((z0.take k).length = k) := by have := r0.1; show (z0.take k).length = k; simp; omega
      obtain ⟨hcl, hfz⟩ := hI.cell hl.out (by omega)
      have hst := hide (hI.step (v := z0.getD k 0) hl.out (by omega) (take_snoc z0 k (by rw [r0.1]; exact hlt)))
      clear hc hI
      go_wp2
      go_roundw
      case rel => exact ⟨k + 1, by omega, by go_num, by go_num, by simpa [List.getD] using hst.out⟩
      case measure => simp [intOf]; omega
    · have hkn : k = n0 := by omega
      subst hkn
      have hz0k : z0.take k = z0 := List.take_of_length_le (by rw [r0.1]; exact Nat.le_refl _)
      rw [hz0k] at hI
      clear hz0k
      go_wp2
      go_loopw [8, 10] (fun n j wr => ∃ m : Nat, m ≤ n1 ∧ n = .int .i64 ((k : Int) + m) ∧ j = .int .i64 m ∧ InvJ w (k + n1 + n2) (z0 ++ z1.take m) wr) (fun _ j _ => n1 - (intOf j).toNat)
      case atStart => exact ⟨0, by omega, by simp, rfl, by simpa using hI⟩
      case round =>
        obtain ⟨m, hm, rfl, rfl, hI⟩ := hrel
        by_cases hlt : m < n1
        · obtain ⟨g, off, rfl, hc⟩ := (r1.below hI.2).2 (by omega)
          have hcell := hc m hlt
          have hl : Hid ((z0 ++ z1.take m).length = k + m) := by have := r1.1; have := r0.1; show (z0 ++ z1.take m).length = k + m; simp; omega
          obtain ⟨hcl, hfz⟩ := hI.cell hl.out (by omega)
          have hst := hide (hI.step (L' := z0 ++ z1.take (m + 1)) (v := z1.getD m 0) hl.out (by omega) (by rw [take_snoc z1 m (by rw [r1.1]; exact hlt)]; exact (List.append_assoc _ _ _).symm))
          clear hc hI
          go_wp2
          go_roundw
          case rel => exact ⟨m + 1, by omega, by go_num, by go_num, by simpa [List.getD] using hst.out⟩
          case measure => simp [intOf]; omega
        · have hmn : m = n1 := by omega
          subst hmn
          have hz1k : z1.take m = z1 := List.take_of_length_le (by rw [r1.1]; exact Nat.le_refl _)
          rw [hz1k] at hI
          clear hz1k
          go_wp2
          go_loopw [8, 11] (fun n j wr => ∃ q : Nat, q ≤ n2 ∧ n = .int .i64 ((k : Int) + m + q) ∧ j = .int .i64 q ∧ InvJ w (k + m + n2) (z0 ++ z1 ++ z2.take q) wr) (fun _ j _ => n2 - (intOf j).toNat)
          case atStart => exact ⟨0, by omega, by simp, rfl, by simpa using hI⟩
          case round =>
            obtain ⟨q, hq, rfl, rfl, hI⟩ := hrel
            by_cases hlt : q < n2
            · obtain ⟨g, off, rfl, hc⟩ := (r2.below hI.2).2 (by omega)
              have hcell := hc q hlt
              have hl : Hid ((z0 ++ z1 ++ z2.take q).length = k + m + q) := by have := r2.1; have := r1.1; have := r0.1; show (z0 ++ z1 ++ z2.take q).length = k + m + q; simp; omega
              obtain ⟨hcl, hfz⟩ := hI.cell hl.out (by omega)
              have hst := hide (hI.step (L' := z0 ++ z1 ++ z2.take (q + 1)) (v := z2.getD q 0) hl.out (by omega) (by rw [take_snoc z2 q (by rw [r2.1]; exact hlt)]; exact (List.append_assoc _ _ _).symm))
              clear hc hI
              go_wp2
              go_roundw
              case rel => exact ⟨q + 1, by omega, by go_num, by go_num, by simpa [List.getD] using hst.out⟩
              case measure => simp [intOf]; omega
            · have hqn : q = n2 := by omega
              subst hqn
              have hz2k : z2.take q = z2 := List.take_of_length_le (by rw [r2.1]; exact Nat.le_refl _)
              rw [hz2k] at hI
              clear hz2k
              go_wp2
              go_ret
              exact ⟨rfl, hI.fin (by have := r2.1; have := r1.1; have := r0.1; simp; omega), hI.2⟩
end Go.Proofs.Qxb6618264a
