/-
  WALKS of seat b6618356a: tagOf, zzTag, zzEmptySlots, zzCopyTags, zzCopyPlaces.
-/
import Derived.Test.Qxb6618356aChecked
import Derived.Test.Qxb6618356aPlain
import Derived.WalkKit
import Derived.WalkSpells
import Derived.Laws.BitsAllLaws
namespace Go.Proofs.Qxb6618356a
open Go.RowKit
set_option linter.unusedVariables false

theorem hide {p : Prop} (h : p) : Hid p := h
theorem ret_int {k : IntKind} {a b : Int} (h : a = b) : Ending.returned (.int k a) = .returned (.int k b) := by rw [h]
theorem ret_bool {a b : Bool} (h : a = b) : Ending.returned (.bool a) = .returned (.bool b) := by rw [h]

theorem tag_bits (x : Int) (h0 : 0 ≤ x) (h1 : x < 128) : bits .or .u8 x 128 = 128 + x := by
  rw [u8_or x 128 h0 (by omega) (by omega) (by omega)]
  have e : x.toNat ||| (128 : Int).toNat = 128 + x.toNat := by
    rw [Nat.or_comm]
    exact nat_join 7 128 x.toNat (by decide) (by omega)
  rw [e]
  omega

theorem tagOf_any (h : Int) (h0 : 0 ≤ h) (h1 : h < 18446744073709551616) (w : World) :
    Calls Try.prog 13 #[.int .u64 h] w fun e w' => e = .returned (.int .u8 (128 + h / 144115188075855872)) ∧ w = w' := by
  go_enter Try.func13, Try.ntmps13
  go_wp2
  go_ret
  exact ⟨ret_int (tag_bits _ (by omega) (by omega)), rfl⟩

theorem zzTag_any (h : Int) (h0 : 0 ≤ h) (h1 : h < 18446744073709551616) (w : World) :
    Calls Try.prog 10 #[.int .u64 h] w fun e w' => e = .returned (.int .u8 (128 + h / 144115188075855872)) ∧ w = w' := by
  go_enter Try.func10, Try.ntmps10
  go_wp2
  go_ret
  exact ⟨rfl, rfl⟩

/-- zzEmptySlots: it answers at least 1 just where a slot is empty. -/
theorem empty_any (g off n c : Nat) (zs : List Int) (hn : n ≤ 65536) (w : World) (hc : ∀ k, k < n → w.cell? ⟨g, off + k, none⟩ = some (.int .u8 (zs.getD k 0))) :
    Calls Try.prog 6 #[.slice (some ⟨g, off, none⟩) n c] w fun e w' => ∃ t : Nat, e = .returned (.int .i64 (t : Int)) ∧ (1 ≤ t → ∃ k, k < n ∧ zs.getD k 0 = 0) ∧ ((∃ k, k < n ∧ zs.getD k 0 = 0) → 1 ≤ t) ∧ t ≤ n ∧ w = w' := by
  have HC := hide hc
  clear hc
  go_enter Try.func6, Try.ntmps6
  go_wp2
  go_loop [3, 4] (fun t j => ∃ u k : Nat, k ≤ n ∧ u ≤ k ∧ t = .int .i64 u ∧ j = .int .i64 k ∧ Hid (1 ≤ u → ∃ k, k < n ∧ zs.getD k 0 = 0) ∧ Hid ((∃ i, i < k ∧ zs.getD i 0 = 0) → 1 ≤ u)) (fun _ j => n - (intOf j).toNat)
  case atStart => exact ⟨0, 0, by omega, by omega, rfl, rfl, hide (fun h => absurd h (by omega)), hide (fun ⟨i, hi, _⟩ => absurd hi (Nat.not_lt_zero _))⟩
  case round =>
    obtain ⟨u, k, hk, hu, rfl, rfl, HU, HV⟩ := hrel
    by_cases hlt : k < n
    · have hcell := HC.out k hlt
      go_wp2
      · have t1 : (zs[k]?.getD 0 == 0) = true := by assumption
        go_round
        case rel => exact ⟨u + 1, k + 1, by omega, by omega, by go_num, by go_num, hide (fun _ => ⟨k, hlt, by simpa [List.getD] using t1⟩), hide (fun _ => by omega)⟩
        case measure => simp [intOf]; omega
      · have t1 : (zs[k]?.getD 0 == 0) = false := by assumption
        have HV' : Hid ((∃ i, i < k + 1 ∧ zs.getD i 0 = 0) → 1 ≤ u) := by
          rintro ⟨i, hi, h0⟩
          by_cases e : i = k
          · rw [e] at h0
            simp [List.getD] at h0
            simp [h0] at t1
          · exact HV.out ⟨i, by omega, h0⟩
        go_round
        case rel => exact ⟨u, k + 1, by omega, by omega, rfl, by go_num, HU, HV'⟩
        case measure => simp [intOf]; omega
    · have hkn : k = n := by omega
      go_wp2
      go_ret
      exact ⟨u, rfl, HU.out, fun i hi h0 => HV.out ⟨i, by omega, h0⟩, by omega, rfl⟩

/-! ### blocks that are known whole -/
def Blk (w : World) (g : Nat) (t : TypeId) (k : IntKind) (zs : List Int) : Prop := w.heap[g]? = some (.cells (zs.map (Value.int k)).toArray t (0, 0))

theorem Blk.lt {w : World} {g : Nat} {t : TypeId} {k : IntKind} {zs : List Int} (h : Blk w g t k zs) : g < w.heap.size := by
  rcases Nat.lt_or_ge g w.heap.size with h' | h'
  · exact h'
  · unfold Blk at h; rw [Array.getElem?_eq_none h'] at h; simp at h
theorem Blk.cell {w : World} {g : Nat} {t : TypeId} {k : IntKind} {zs : List Int} (h : Blk w g t k zs) (j : Nat) (hj : j < zs.length) : w.cell? ⟨g, j, none⟩ = some (.int k (zs.getD j 0)) := by
  rw [cell_of_row w g j _ t (0, 0) h]
  simp [hj, List.getD]
theorem Blk.frozen {w : World} {g : Nat} {t : TypeId} {k : IntKind} {zs : List Int} (h : Blk w g t k zs) (j : Nat) : w.frozen? ⟨g, j, none⟩ = false := frozen_of_row w g j _ t h
theorem Blk.below {w w' : World} {B g : Nat} {t : TypeId} {k : IntKind} {zs : List Int} (h : Blk w g t k zs) (hb : Below B w w') (hg : g < B) : Blk w' g t k zs := by
  unfold Blk
  rw [hb.block g hg]
  exact h
theorem Blk.set {w : World} {g : Nat} {t : TypeId} {k : IntKind} {zs : List Int} (h : Blk w g t k zs) (j : Nat) (v : Int) : Blk (w.setCell ⟨g, j, none⟩ (.int k v)) g t k (zs.set j v) := by
  unfold Blk
  rw [heap_setCell_same w g j _ t _ h]
  simp [List.map_set]
theorem Blk.other {w : World} {g : Nat} {t : TypeId} {k : IntKind} {zs : List Int} (h : Blk w g t k zs) (a : Addr) (v : Value) (hne : g ≠ a.block) : Blk (w.setCell a v) g t k zs := by
  unfold Blk
  rw [Below.heap_setCell w a v g hne]
  exact h
theorem Blk.made {w w1 : World} {n : Nat} {t : TypeId} {k : IntKind} (h : w1.ownsRow w.heap.size t 1 (.slice (some ⟨w.heap.size, 0, none⟩) n n) n (madeCells (Value.int k 0).cells (n * 1)).toList) : Blk w1 w.heap.size t k (List.replicate n 0) := by
  rcases h.2 with ⟨h', _⟩ | ⟨g', cap', cur, h', _, hg, _, _, hsz, htake⟩
  · simp at h'
  simp only [Value.slice.injEq, Option.some.injEq, Addr.mk.injEq, and_true, true_and] at h'
  obtain ⟨rfl, rfl⟩ := h'
  unfold Blk
  rw [hg]
  have e : (madeCells (Value.int k 0).cells (n * 1)).toList = (List.replicate n (0 : Int)).map (Value.int k) := by
    have := toList_madeCells_one (Value.int k 0) (n * 1)
    simpa [Value.cells] using this
  have e2 : cur.toList = (List.replicate n (0 : Int)).map (Value.int k) := by
    rw [← e, ← htake, List.take_of_length_le (by rw [Array.length_toList, hsz]; exact Nat.le_refl _)]
  rw [← e2]

theorem Try.info5 : (Try.prog.info? 5).map (fun i => (i.zero, i.size, i.bytes)) = some (some (.int .u8 0), 1, 1) := by kernel_rfl
theorem Try.info31 : (Try.prog.info? 31).map (fun i => (i.zero, i.size, i.bytes)) = some (some (.int .u32 0), 1, 4) := by kernel_rfl

theorem fill_step (zs : List Int) (n k : Nat) (hz : zs.length = n) (hk : k < n) : (zs.take k ++ List.replicate (n - k) 0).set k (zs.getD k 0) = zs.take (k + 1) ++ List.replicate (n - (k + 1)) 0 := by
  have e1 : n - k = (n - (k + 1)) + 1 := by omega
  have hl : (zs.take k).length = k := by simp; omega
  rw [e1, List.replicate_succ, List.set_append_right _ _ (by omega), hl, Nat.sub_self, List.set_cons_zero, List.take_succ_eq_append_getElem (by omega), List.append_assoc]
  simp [hz, hk, List.getD]

set_option maxHeartbeats 400000 in
theorem copyTags (g off n c : Nat) (zs : List Int) (hz : zs.length = n) (hn : n ≤ 65536) (w : World) (hc : ∀ k, k < n → w.cell? ⟨g, off + k, none⟩ = some (.int .u8 (zs.getD k 0))) :
    Calls Try.prog 7 #[.slice (some ⟨g, off, none⟩) n c] w fun e w' => e = .returned (.slice (some ⟨w.heap.size, 0, none⟩) n n) ∧ Blk w' w.heap.size 5 .u8 zs ∧ Below w.heap.size w w' := by
  have HC := hide hc
  have HZ := hide hz
  clear hc hz
  obtain ⟨i0, hi0, hz0, hz1, hz2⟩ := info_parts Try.info5
  have hnn := fun wx => Lib.run_eql_slice_nil (P := Try.prog) wx 22 5 (some ⟨g, off, none⟩) n c 0 0 Try.underlying22
  go_enter Try.func7, Try.ntmps7
  go_wp2_with (at_make; refine wpList_make_full _ rfl (.tmp 8) (.tmp 8) 22 rfl w.heap.size 5 i0 (.int .u8 0) 1 Try.underlying22 hi0 hz0 hz1 .i64 .i64 _ _ n rfl rfl (by omega) (by omega) (by rw [hz2]; omega) (by unfold maxLen; omega) (Nat.le_refl _) ?_; intro w1 hown hgrow)
  have hb1 : Below w.heap.size w w1 := (Below.refl _ _).grown hgrow (Nat.le_refl _) (fun k e => by cases e)
  have hB := Blk.made hown
  clear hown hgrow hi0 hz0 hz1 hz2
  go_loopw [4] (fun j wr => ∃ k : Nat, k ≤ n ∧ j = .int .i64 k ∧ Blk wr w.heap.size 5 .u8 (zs.take k ++ List.replicate (n - k) 0) ∧ Below w.heap.size w wr) (fun j _ => n - (intOf j).toNat)
  case atStart => exact ⟨0, by omega, rfl, by simpa using hB, hb1⟩
  case round =>
    obtain ⟨k, hk, rfl, hI, hb⟩ := hrel
    by_cases hlt : k < n
    · have hg : g < w.heap.size := World.block_lt_of_cell? w _ (HC.out k hlt)
      have hcell : wr.cell? ⟨g, off + k, none⟩ = some (.int .u8 (zs.getD k 0)) := (hb.cell (by exact hg)).trans (HC.out k hlt)
      have hcl := hI.cell k (by have := HZ.out; simp; omega)
      have hfz := hI.frozen k
      have HI := hide (hI.set k (zs.getD k 0))
      rw [fill_step zs n k HZ.out hlt] at HI
      have HB := hide hb
      clear hI hb hb1 hB
      go_wp2
      go_roundw
      case rel => exact ⟨k + 1, by omega, by go_num, by simpa [List.getD] using HI.out, HB.out.setCell (Nat.le_refl _) _⟩
      case measure => simp [intOf]; omega
    · have hkn : k = n := by omega
      subst hkn
      have e : zs.take k ++ List.replicate (k - k) 0 = zs := by rw [List.take_of_length_le (by rw [HZ.out]; exact Nat.le_refl _)]; simp
      rw [e] at hI
      clear e
      go_wp2
      go_ret
      exact ⟨rfl, hI, hb⟩

set_option maxHeartbeats 400000 in
theorem copyPlaces (g off n c : Nat) (zs : List Int) (hz : zs.length = n) (hn : n ≤ 65536) (w : World) (hc : ∀ k, k < n → w.cell? ⟨g, off + k, none⟩ = some (.int .u32 (zs.getD k 0))) :
    Calls Try.prog 8 #[.slice (some ⟨g, off, none⟩) n c] w fun e w' => e = .returned (.slice (some ⟨w.heap.size, 0, none⟩) n n) ∧ Blk w' w.heap.size 31 .u32 zs ∧ Below w.heap.size w w' := by
  have HC := hide hc
  have HZ := hide hz
  clear hc hz
  obtain ⟨i0, hi0, hz0, hz1, hz2⟩ := info_parts Try.info31
  have hnn := fun wx => Lib.run_eql_slice_nil (P := Try.prog) wx 23 31 (some ⟨g, off, none⟩) n c 0 0 Try.underlying23
  go_enter Try.func8, Try.ntmps8
  go_wp2_with (at_make; refine wpList_make_full _ rfl (.tmp 8) (.tmp 8) 23 rfl w.heap.size 31 i0 (.int .u32 0) 1 Try.underlying23 hi0 hz0 hz1 .i64 .i64 _ _ n rfl rfl (by omega) (by omega) (by rw [hz2]; omega) (by unfold maxLen; omega) (Nat.le_refl _) ?_; intro w1 hown hgrow)
  have hb1 : Below w.heap.size w w1 := (Below.refl _ _).grown hgrow (Nat.le_refl _) (fun k e => by cases e)
  have hB := Blk.made hown
  clear hown hgrow hi0 hz0 hz1 hz2
  go_loopw [4] (fun j wr => ∃ k : Nat, k ≤ n ∧ j = .int .i64 k ∧ Blk wr w.heap.size 31 .u32 (zs.take k ++ List.replicate (n - k) 0) ∧ Below w.heap.size w wr) (fun j _ => n - (intOf j).toNat)
  case atStart => exact ⟨0, by omega, rfl, by simpa using hB, hb1⟩
  case round =>
    obtain ⟨k, hk, rfl, hI, hb⟩ := hrel
    by_cases hlt : k < n
    · have hg : g < w.heap.size := World.block_lt_of_cell? w _ (HC.out k hlt)
      have hcell : wr.cell? ⟨g, off + k, none⟩ = some (.int .u32 (zs.getD k 0)) := (hb.cell (by exact hg)).trans (HC.out k hlt)
      have hcl := hI.cell k (by have := HZ.out; simp; omega)
      have hfz := hI.frozen k
      have HI := hide (hI.set k (zs.getD k 0))
      rw [fill_step zs n k HZ.out hlt] at HI
      have HB := hide hb
      clear hI hb hb1 hB
      go_wp2
      go_roundw
      case rel => exact ⟨k + 1, by omega, by go_num, by simpa [List.getD] using HI.out, HB.out.setCell (Nat.le_refl _) _⟩
      case measure => simp [intOf]; omega
    · have hkn : k = n := by omega
      subst hkn
      have e : zs.take k ++ List.replicate (k - k) 0 = zs := by rw [List.take_of_length_le (by rw [HZ.out]; exact Nat.le_refl _)]; simp
      rw [e] at hI
      clear e
      go_wp2
      go_ret
      exact ⟨rfl, hI, hb⟩

end Go.Proofs.Qxb6618356a
