/-
  WALKS of seat b6618356a: FnPutFillsNearestEmptySlot, the whole way.
-/
import Derived.Test.Qxb6618356aWalkD
import Derived.OpenShut
namespace Go.Proofs.Qxb6618356a
open Go.RowKit
set_option linter.unusedVariables false

theorem Blk.cells0 {w : World} {g n : Nat} {t : TypeId} {k : IntKind} {zs : List Int} (h : Blk w g t k zs) (hz : zs.length = n) : ∀ j, j < n → w.cell? ⟨g, 0 + j, none⟩ = some (.int k (zs.getD j 0)) := fun j hj => by
  rw [Nat.zero_add]; exact h.cell j (by omega)
theorem Blk.kept {w w' : World} {g : Nat} {t : TypeId} {k : IntKind} {zs : List Int} (h : Blk w g t k zs) (e : w'.heap[g]? = w.heap[g]?) : Blk w' g t k zs := by
  unfold Blk; rw [e]; exact h

set_option maxRecDepth 100000 in
set_option maxHeartbeats 2000000 in
theorem fn_main (g0 off0 g1 off1 m c0 c1 : Nat) (n : Int) (h p s D : Nat) (w : World) (ts ps : List Int) (h0 : m ≤ 65536) (hz : 1 ≤ m) (hb : (bits .and .i64 (m : Int) ((m : Int) - 1) != 0) = false) (hh : h < 18446744073709551616) (hp : p < 4294967296)
    (hs : Hid (h % m = s)) (hsm : s < m) (hpow : Hid (∃ e, m = 2 ^ e)) (hts : Hid (ts.length = m)) (hps : Hid (ps.length = m))
    (hc : Hid (∀ k, k < m → w.cell? ⟨g0, off0 + k, none⟩ = some (.int .u8 (ts.getD k 0)))) (hd : Hid (∀ k, k < m → w.cell? ⟨g1, off1 + k, none⟩ = some (.int .u32 (ps.getD k 0)))) (hF : Hid (Pl.First ts m s D)) :
    Calls Try.prog 3 #[.slice (some ⟨g0, off0, none⟩) m c0, .slice (some ⟨g1, off1, none⟩) m c1, .int .i64 n, .int .u64 h, .int .i64 p] w fun e w' => e = .returned (.bool true) ∧ Below w.heap.size w w' := by
  have hz0 : ((m : Int) == 0) = false := beq_eq_false_iff_ne.2 (by omega)
  have hex : Hid (∃ k, k < m ∧ ts.getD k 0 = 0) := ⟨(s + D) % m, Nat.mod_lt _ (by omega), hF.out.2.1⟩
  have hsI : (h : Int) % (m : Int) = (s : Int) := by rw [← hs.out]; simp
  go_enter Try.func3, Try.ntmps3
  go_wp2_with fail
  refine (bytes_ok _ _ _ _ _ _ _ _ _ _ h0 h0).mono ?_
  rintro e w' ⟨rfl, rfl⟩
  go_wp2_with fail
  refine (empty_any g0 off0 m _ ts h0 _ hc.out).mono ?_
  rintro e w' ⟨t, rfl, ht, ht', htm, rfl⟩
  have ht1 : 1 ≤ t := ht' hex.out
  clear ht ht'
  go_wp2_with fail
  refine (copyTags g0 off0 m _ ts hts.out h0 _ hc.out).mono ?_
  rintro e w1 ⟨rfl, b1, hb1⟩
  have HB1 := hide b1
  have hs1 := b1.lt
  have Hb1 := hide hb1
  clear b1 hb1
  go_wp2_with fail
  refine (copyPlaces g1 off1 m _ ps hps.out h0 _ (fun k hk => ?_)).mono ?_
  · rw [Hb1.out.cell (by exact World.block_lt_of_cell? w _ (hd.out k hk))]
    exact hd.out k hk
  rintro e w2 ⟨rfl, b2, hb2⟩
  have HB2 := hide b2
  have hs2 := b2.lt
  have Hb2 := hide hb2
  have HB1' := hide (HB1.out.below hb2 hs1)
  clear b2 hb2
  go_wp2_with fail
  refine (copyTags w.heap.size 0 m _ ts hts.out h0 _ (HB1'.out.cells0 hts.out)).mono ?_
  rintro e w3 ⟨rfl, b3, hb3⟩
  have HB3 := hide b3
  have hs3 := b3.lt
  have Hb3 := hide hb3
  have HB1'' := hide (HB1'.out.below hb3 HB1'.out.lt)
  have HB2'' := hide (HB2.out.below hb3 hs2)
  clear b3 hb3
  go_wp2_with fail
  refine (copyPlaces w1.heap.size 0 m _ ps hps.out h0 _ (HB2''.out.cells0 hps.out)).mono ?_
  rintro e w4 ⟨rfl, b4, hb4⟩
  have HB4 := hide b4
  have hs4 := b4.lt
  have Hb4 := hide hb4
  have HB1f := hide (HB1''.out.below hb4 HB1''.out.lt)
  have HB2f := hide (HB2''.out.below hb4 HB2''.out.lt)
  have HB3f := hide (HB3.out.below hb4 hs3)
  clear b4 hb4
  go_wp2_with fail
  refine (zzput w.heap.size w1.heap.size m ts ps D h p n hts.out hps.out hz h0 hpow.out hh hp (by rw [hs.out]; exact hF.out) (by omega) _ HB1f.out HB2f.out).mono ?_
  rintro e w5 ⟨rfl, q1, q2, q3, q4⟩
  rw [hs.out] at q1 q2
  have QT := hide q1
  have QP := hide q2
  have QO := hide (HB3f.out.kept (q3 _ (by omega) (by omega) (by omega)))
  have QQ := hide (HB4.out.kept (q3 _ (by omega) (by omega) (by omega)))
  have HB : Hid (Below w.heap.size w w5) := by
    refine ((((Hb1.out.trans (Hb2.out.mono (by omega))).trans (Hb3.out.mono (by omega))).trans (Hb4.out.mono (by omega)))).trans (q4 _ (Nat.le_refl _) (by omega))
  have wp := wrap_place p hp
  clear q1 q2 q3 q4 HB1 HB1' HB1'' HB1f HB2 HB2'' HB2f HB3 HB3f HB4 Hb1 Hb2 Hb3 Hb4
  go_wp2
  go_loop [19, 20, 21] (fun bb dd j => ∃ (k bd : Nat) (best : Int), k ≤ m ∧ bd ≤ m ∧ -1 ≤ best ∧ best ≤ m ∧ bb = .int .i64 best ∧ dd = .int .u64 bd ∧ j = .int .i64 k ∧ Hid (Pl.Best ts m s k best bd)) (fun _ _ j => m - (intOf j).toNat)
  case atStart => exact ⟨0, m, -1, by omega, by omega, by omega, by omega, rfl, rfl, rfl, Pl.Best.start ts m s⟩
  case round =>
    obtain ⟨k, bd, best, hk, hbd, hb1, hb2, rfl, rfl, rfl, HBest⟩ := hrel
    by_cases hlt : k < m
    · have hcell := QO.out.cell k (by rw [hts.out]; exact hlt)
      have hdd := Pl.dist_lt m s k (by omega)
      have hdI : ((k : Int) + (m : Int) - (s : Int)) % (m : Int) = ((Pl.dist m s k : Nat) : Int) := by
        unfold Pl.dist
        rw [Int.natCast_emod, show ((k + m - s : Nat) : Int) = (k : Int) + (m : Int) - (s : Int) by omega]
      generalize hq : Pl.dist m s k = dd at hdd hdI
      have HQ := hide hq
      have HDI := hide hdI
      clear hq
      go_wp2
      · have t1 : (ts[k]?.getD 0 == 0) = true := by assumption
        have t2 : dd < bd := by assumption
        have HN : Hid (Pl.Best ts m s (k + 1) (k : Int) dd) := by
          have := HBest.out.nearer (by simpa [List.getD] using t1) (by rw [HQ.out]; exact t2)
          rw [HQ.out] at this
          exact this
        go_round
        case rel => exact ⟨k + 1, dd, k, by omega, by omega, by omega, by omega, rfl, by rw [HDI.out], by go_num, HN⟩
        case measure => simp [intOf]; omega
      · have t1 : (ts[k]?.getD 0 == 0) = true := by assumption
        have t2 : ¬ dd < bd := by assumption
        have HN : Hid (Pl.Best ts m s (k + 1) best bd) := HBest.out.farther (by omega) (by rw [HQ.out]; exact t2)
        go_round
        case rel => exact ⟨k + 1, bd, best, by omega, by omega, by omega, by omega, rfl, rfl, by go_num, HN⟩
        case measure => simp [intOf]; omega
      · have t1 : (ts[k]?.getD 0 == 0) = false := by assumption
        have HN : Hid (Pl.Best ts m s (k + 1) best bd) := HBest.out.full (by simpa [List.getD] using t1)
        go_round
        case rel => exact ⟨k + 1, bd, best, by omega, by omega, by omega, by omega, rfl, rfl, by go_num, HN⟩
        case measure => simp [intOf]; omega
    · have hkm : k = m := by omega
      have hbe : best = (((s + D) % m : Nat) : Int) := by
        have := HBest.out
        rw [hkm] at this
        exact Pl.best_first hsm hF.out this
      have hbi : (s + D) % m < m := Nat.mod_lt _ (by omega)
      generalize (s + D) % m = i at *
      subst hbe
      go_wp2
      go_loop [23] (fun j => ∃ k : Nat, k ≤ m ∧ j = .int .i64 k) (fun j => m - (intOf j).toNat)
      case atStart => exact ⟨0, by omega, rfl⟩
      case round =>
        obtain ⟨k, hk, rfl⟩ := hrel
        by_cases hlt : k < m
        · have e1 := QO.out.cell k (by rw [hts.out]; exact hlt)
          have e2 := QQ.out.cell k (by rw [hps.out]; exact hlt)
          have e3 := QT.out.cell k (by rw [List.length_set, hts.out]; exact hlt)
          have e4 := QP.out.cell k (by rw [List.length_set, hps.out]; exact hlt)
          by_cases hki : k = i
          · subst hki
            have g3 : (ts.set k (128 + (h : Int) / 144115188075855872)).getD k 0 = 128 + (h : Int) / 144115188075855872 := by simp [List.getD, hts.out, hlt]
            have g4 : (ps.set k (p : Int)).getD k 0 = (p : Int) := by simp [List.getD, hps.out, hlt]
            rw [g3] at e3
            rw [g4] at e4
            clear g3 g4
            go_wp2_with (go_at_call 10; refine (zzTag_any _ (by omega) (by omega) _).mono ?_; rintro e w' ⟨rfl, rfl⟩)
            go_round
            case rel => exact ⟨k + 1, by omega, by go_num⟩
            case measure => simp [intOf]; omega
          · have hne : ((k : Int) == (i : Int)) = false := beq_eq_false_iff_ne.2 (by omega)
            have g3 : (ts.set i (128 + (h : Int) / 144115188075855872)).getD k 0 = ts.getD k 0 := by simp [List.getD, Ne.symm hki]
            have g4 : (ps.set i (p : Int)).getD k 0 = ps.getD k 0 := by simp [List.getD, Ne.symm hki]
            rw [g3] at e3
            rw [g4] at e4
            clear g3 g4
            go_wp2
            go_round
            case rel => exact ⟨k + 1, by omega, by go_num⟩
            case measure => simp [intOf]; omega
        · go_wp2
          go_ret
          exact ⟨rfl, HB.out⟩

/-- WHAT THE WALK IS TOLD OF A SLICE OF INTEGERS THAT CAME IN: it is nil; or it leads to a row of 'cap' cells, the numbers 'zs' (the first 'len' are its elements, the rest its spare room), each fitting its kind. -/
def IsRow (k : IntKind) (w : World) (a : Option Addr) (len cap : Nat) (zs : List Int) : Prop :=
  (a = none ∧ len = 0 ∧ cap = 0 ∧ zs = []) ∨
  ∃ x, a = some x ∧ len ≤ cap ∧ cap ≤ maxLen ∧ zs.length = cap ∧ (∀ i, i < zs.length → w.cell? (x.add i) = some (.int k (zs.getD i 0))) ∧ ∀ n ∈ zs, (Lit.int k n).wf = true


theorem cells_of_row {k : IntKind} {w : World} {a : Option Addr} {n c : Nat} {zs : List Int} (h : IsRow k w a n c zs) (h0 : 1 ≤ n) :
    ∃ g off, a = some ⟨g, off, none⟩ ∧ (zs.take n).length = n ∧ ∀ j, j < n → w.cell? ⟨g, off + j, none⟩ = some (.int k ((zs.take n).getD j 0)) := by
  rcases h with ⟨rfl, rfl, rfl, rfl⟩ | ⟨x, rfl, hlc, hcm, hz, hcell, hwf⟩
  · exact absurd h0 (by omega)
  · obtain ⟨b, off, spot⟩ := x
    have hspot : spot = none := by simpa [Addr.add] using World.cell?_spot (hcell 0 (by omega))
    subst hspot
    refine ⟨b, off, rfl, by simp; omega, fun j hj => ?_⟩
    rw [← Addr.add_lit, hcell j (by omega)]
    simp [List.getD, hj]

theorem wrap_i64_small (a : Nat) (h : a < 9223372036854775808) : IntKind.i64.wrap (a : Int) = (a : Int) := by
  simp [IntKind.wrap, IntKind.bits, IntKind.signed]; omega
theorem i64_and_nat (a b : Nat) (ha : a < 9223372036854775808) (hb : b < 9223372036854775808) : bits .and .i64 (a : Int) (b : Int) = ((a &&& b : Nat) : Int) := by
  show IntKind.i64.wrap ((BitVec.ofInt 64 (a : Int) &&& BitVec.ofInt 64 (b : Int)).toNat : Int) = _
  rw [BitVec.toNat_and, ofInt_u64 a (by omega), ofInt_u64 b (by omega)]
  exact wrap_i64_small _ (Nat.lt_of_le_of_lt Nat.and_le_left ha)
theorem pow_of_bits (m : Nat) (h0 : 1 ≤ m) (h1 : m ≤ 65536) (hb : (bits .and .i64 (m : Int) ((m : Int) - 1) != 0) = false) : ∃ e, m = 2 ^ e := by
  rw [show (m : Int) - 1 = ((m - 1 : Nat) : Int) by omega, i64_and_nat m (m - 1) (by omega) (by omega)] at hb
  exact Pl.pow_of m (by omega) (by simpa using hb)

theorem fn_walk (a0 : Option Addr) (len0 cap0 : Nat) (z0 : List Int) (a1 : Option Addr) (len1 cap1 : Nat) (z1 : List Int) (a2 : Int) (a3 : Int) (a4 : Int) (w : World) (w0 : IsRow .u8 w a0 len0 cap0 z0) (w1 : IsRow .u32 w a1 len1 cap1 z1) (w2 : (Lit.int .i64 a2).wf = true) (w3 : (Lit.int .u64 a3).wf = true) (w4 : (Lit.int .i64 a4).wf = true) :
    Calls Try.prog 3 #[.slice a0 len0 cap0, .slice a1 len1 cap1, .int .i64 a2, .int .u64 a3, .int .i64 a4] w fun e w' => e = .returned (.bool true) ∧ Below w.heap.size w w' := by
  obtain ⟨p1, p2⟩ := bounds_i64 w4
  obtain ⟨u1, u2⟩ := bounds_u64 w3
  by_cases hl : len0 ≤ 65536 ∧ len1 ≤ 65536
  · obtain ⟨h0, h1⟩ := hl
    by_cases hz : 1 ≤ len0
    · by_cases hb : (bits .and .i64 (len0 : Int) ((len0 : Int) - 1) != 0) = true
      · exact fn_npow a0 a1 len0 len1 cap0 cap1 a2 a3 a4 w h0 h1 hz hb
      · rw [Bool.not_eq_true] at hb
        by_cases he : len1 = len0
        · subst he
          by_cases hp : a4 < 0 ∨ 4294967295 < a4
          · exact fn_place a0 a1 len1 cap0 cap1 a2 a3 a4 w h0 hz hb hp
          · obtain ⟨g0, off0, rfl, hl0, hc0⟩ := cells_of_row w0 hz
            obtain ⟨g1, off1, rfl, hl1, hc1⟩ := cells_of_row w1 hz
            by_cases hex : ∃ k, k < len1 ∧ (z0.take len1).getD k 0 = 0
            · obtain ⟨h, rfl⟩ := Int.eq_ofNat_of_zero_le u1
              obtain ⟨p, rfl⟩ := Int.eq_ofNat_of_zero_le (show 0 ≤ a4 by omega)
              have hsm : h % len1 < len1 := Nat.mod_lt _ (by omega)
              obtain ⟨D, hF⟩ := Pl.first_exists (z0.take len1) len1 (h % len1) hsm hex
              exact fn_main g0 off0 g1 off1 len1 cap0 cap1 a2 h p (h % len1) D w (z0.take len1) (z1.take len1) h0 hz hb (by omega) (by omega) rfl hsm (pow_of_bits len1 hz h0 hb) hl0 hl1 hc0 hc1 hF
            · exact fn_full g0 off0 _ len1 cap0 cap1 a2 a3 a4 w (z0.take len1) h0 hz hb (by omega) (by omega) hc0 hex
        · exact fn_len a0 a1 len0 len1 cap0 cap1 a2 a3 a4 w h0 h1 hz hb he
    · have e : len0 = 0 := by omega
      subst e
      exact fn_zero a0 a1 len1 cap0 cap1 a2 a3 a4 w h1
  · exact fn_long a0 a1 len0 len1 cap0 cap1 a2 a3 a4 w hl
end Go.Proofs.Qxb6618356a
