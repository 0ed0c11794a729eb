/-
  WALKS of seat b6618384a: FnPopReleasesPoppedSlots, the walk.
-/
import Derived.Test.Qxb6618384aWalkD
import Derived.OpenShut
namespace Go.Proofs.Qxb6618384a
open Go.RowKit
set_option linter.unusedVariables false

theorem RowF.at {α : Type} {E : World → Nat → Value → α → Prop} {t : TypeId} {w : World} {lo T n : Nat} {xs : List α} (h : RowF E t w lo (.slice (some ⟨T, 0, none⟩) n n) (some xs)) {i : Nat} {y : α} (hy : xs[i]? = some y) :
    ∃ u, w.cell? ⟨T, i, none⟩ = some u ∧ w.frozen? ⟨T, i, none⟩ = false ∧ E w (T + 1) u y ∧ T < w.heap.size := by
  rcases h with ⟨h, _⟩ | ⟨g, xs', vs, hx, hg, hv, hl, hb, he⟩
  · cases h
  · cases hx
    simp only [Value.slice.injEq, Option.some.injEq, Addr.mk.injEq, and_true] at hv
    obtain ⟨rfl, _⟩ := hv
    have hi : i < vs.length := by have := (List.getElem?_eq_some_iff.1 hy).1; omega
    exact ⟨vs[i], by rw [hb.cell i, List.getElem?_eq_getElem hi], hb.frozen i, he i _ y (List.getElem?_eq_getElem hi) hy, hb.lt⟩

theorem RowR.at {α : Type} {E : World → Value → α → Prop} {w : World} {T off n c : Nat} {xs : List α} (h : RowR E w (.slice (some ⟨T, off, none⟩) n c) (some xs)) {i : Nat} {y : α} (hy : xs[i]? = some y) :
    ∃ u, w.cell? ⟨T, off + i, none⟩ = some u ∧ E w u y := by
  rcases h with ⟨h, _⟩ | ⟨a, xs', c', hx, hv, hc⟩
  · cases h
  · cases hx
    simp only [Value.slice.injEq, Option.some.injEq] at hv
    obtain ⟨rfl, _⟩ := hv
    obtain ⟨u, hu, he⟩ := hc i y hy
    rw [Addr.add_lit] at hu
    exact ⟨u, hu, he⟩

set_option maxRecDepth 100000 in
set_option maxHeartbeats 4000000 in
theorem fn_walk (v : Value) (i k : Int) (w : World) (x : Option (List (Option (List (Option (List Int)))))) (h : TopR w v x) (hi1 : -9223372036854775808 ≤ i) (hi2 : i ≤ 9223372036854775807) (hk1 : -9223372036854775808 ≤ k) (hk2 : k ≤ 9223372036854775807) :
    Calls Try.prog 3 #[v, .int .i64 i, .int .i64 k] w fun e w' => e = .returned (.bool true) ∧ Below w.heap.size w w' := by
  obtain ⟨A, C, hA, hxA, hAn, hr⟩ := RowR.form h
  have HT := hide h
  have HB := bytes_any v i k w x h
  have HW := fun hs => within_any v w x h hs
  subst hA
  obtain ⟨n, hn⟩ : ∃ n, (x.getD []).length = n := ⟨_, rfl⟩
  rw [hn] at HT HB HW hr
  rw [hn]
  have HR := hide hr
  have HN := hide hn
  have HXA := hide hxA
  have HHB := hide HB
  have HHW := hide HW
  clear h hr hn hAn hxA HB HW
  go_enter Try.func3, Try.ntmps3
  go_wp2_with fail
  refine HHB.out.mono ?_
  rintro e w' ⟨b, rfl, hsm, rfl⟩
  cases b
  · go_wp2
    go_ret
    exact ⟨rfl, Below.refl _ _⟩
  have hs := hsm rfl
  have HS := hide hs
  have hnb : n ≤ 1048576 := by rw [← HN.out]; exact hs.1
  clear hsm hs
  go_wp2_with fail
  refine (HHW.out HS.out).mono ?_
  rintro e w' ⟨b, rfl, rfl⟩
  cases b
  · go_wp2
    go_ret
    exact ⟨rfl, Below.refl _ _⟩
  clear HHB HHW
  by_cases hi0 : i < 0
  · go_wp2
    go_ret
    exact ⟨rfl, Below.refl _ _⟩
  by_cases hin : (n : Int) ≤ i
  · go_wp2
    go_ret
    exact ⟨rfl, Below.refl _ _⟩
  obtain ⟨i, rfl⟩ := Int.eq_ofNat_of_zero_le (show 0 ≤ i by omega)
  have hin' : i < n := by omega
  by_cases hk0 : k < 0
  · go_wp2
    go_ret
    exact ⟨rfl, Below.refl _ _⟩
  obtain ⟨k, rfl⟩ := Int.eq_ofNat_of_zero_le (show 0 ≤ k by omega)
  obtain ⟨g0, off0, y, u, ha, hy, hu, hq⟩ := HR.out i hin'
  subst ha
  obtain ⟨A', C', hA', -, -, -⟩ := RowR.form hq
  subst hA'
  obtain ⟨L, hL⟩ : ∃ L, (y.getD []).length = L := ⟨_, rfl⟩
  rw [hL] at hu
  have HL := hide hL
  have HY := hide hy
  clear hL hy hq
  have hdi : decide ((i : Int) < 0) = false := decide_eq_false (by omega)
  have hdk : decide ((k : Int) < 0) = false := decide_eq_false (by omega)
  by_cases hkL : L < k
  · go_wp2
    go_ret
    exact ⟨rfl, Below.refl _ _⟩
  obtain ⟨q, rfl⟩ : ∃ q, x = some q := by
    cases x with
    | none => exact absurd (HXA.out rfl) (by simp)
    | some q => exact ⟨q, rfl⟩
  have HN' : Hid (q.length = n) := HN
  have HS' : Hid (Small q) := HS
  have HY' : Hid (q[i]? = some y) := HY
  clear HN HS HY HXA HR
  go_wp2_with fail
  refine (copy_any ⟨g0, off0, none⟩ n C q HN'.out HS'.out w HT.out).mono ?_
  rintro e w1 ⟨rfl, hF1, hb1⟩
  have HM1 := hide (top_read _ _ _ _ hF1)
  have HB1 := hide hb1
  clear hF1 hb1 hu
  go_wp2_with fail
  refine (copy_any ⟨w.heap.size, 0, none⟩ n n q HN'.out HS'.out w1 HM1.out).mono ?_
  rintro e w2 ⟨rfl, hF2, hb2⟩
  have HB2 := hide hb2
  obtain ⟨u2, hc2, hf2, hQ2, hT2⟩ := RowF.at hF2 HY'.out
  clear hF2 hb2
  by_cases hL0 : L = 0
  · have hk00 : k = 0 := by omega
    subst hk00
    obtain ⟨A2, C2, hA2, -, -, -⟩ := RowR.form (que_read _ _ _ _ hQ2)
    rw [HL.out, hL0] at hA2
    subst hA2
    obtain ⟨u1, hc1, hQ1⟩ := RowR.at (topR_stays _ _ _ _ HM1.out HB2.out) HY'.out
    obtain ⟨A1, C1, hA1, -, -, -⟩ := RowR.form hQ1
    rw [HL.out, hL0] at hA1
    subst hA1
    rw [Nat.zero_add] at hc1
    have HBf := hide (HB1.out.trans (HB2.out.mono HB1.out.size))
    clear hQ1 hQ2 hkL
    subst hL0
    go_wp2
    refine wp_loop_rounds 1 ?_
    rw [rounds_succ]
    go_wp2
    refine wp_loop_rounds 1 ?_
    rw [rounds_succ]
    go_wp2
    go_ret
    exact ⟨rfl, HBf.out⟩
  · obtain ⟨ms, rfl⟩ : ∃ ms, y = some ms := by
      cases y with
      | none => exact absurd HL.out (by simp; omega)
      | some ms => exact ⟨ms, rfl⟩
    have HL' : Hid (ms.length = L) := HL
    have HSm := hide (HS'.out.2 ms (List.mem_of_getElem? HY'.out))
    have hLb : L ≤ 1048576 := by rw [← HL'.out]; exact HSm.out.1
    rcases hQ2 with ⟨h, _⟩ | ⟨g2, ms', vs, hx, hg2, hv, hvl, hblk, hmsg⟩
    · cases h
    cases hx
    rw [HL'.out] at hv hvl
    subst hv
    have HVL := hide hvl
    have HMSG := hide hmsg
    have hg2lt := hblk.lt
    have HI0 : Hid (InvP w2 w1.heap.size g2 i L vs 0 w2) := ⟨⟨_, hc2, fun _ => rfl⟩, hf2, by simpa using hblk, fun _ _ _ _ => rfl, rfl, rfl, rfl, Nat.le_refl _⟩
    clear hmsg hvl hblk HL
    go_wp2
    clear hc2 hf2
    go_loopw [9] (fun j wr => ∃ s : Nat, s ≤ k ∧ j = .int .i64 s ∧ Hid (InvP w2 w1.heap.size g2 i L vs s wr)) (fun j _ => k - (intOf j).toNat)
    case atStart => exact ⟨0, by omega, rfl, HI0⟩
    case round =>
      obtain ⟨s, hs, rfl, HI⟩ := hrel
      rename World => w3
      clear HI0
      by_cases hlt : s < k
      · obtain ⟨V, hV, hVf⟩ := HI.out.topCell
        have hVe := hVf (by omega)
        subst hVe
        have htf := HI.out.topFree
        obtain ⟨hc, hf⟩ := HI.out.cell HVL.out (by omega)
        clear hVf
        go_wp2_with fail
        refine (zzpop_any w1.heap.size g2 n i s (L - s) (L - s) hnb hin' (by omega) (Nat.le_refl _) (by omega) (by omega) w3 _ hV htf hc hf).mono ?_
        rintro e w4 ⟨rfl, a', ha', hw4⟩
        have HI' : Hid (InvP w2 w1.heap.size g2 i L vs (s + 1) w4) := by
          rw [hw4]
          exact HI.out.pop HVL.out (by omega) (by omega) a' ha'
        clear ha' hw4 hV htf hc hf
        go_wp2
        go_roundw
        case rel => exact ⟨s + 1, by omega, by go_num, HI'⟩
        case measure => simp [intOf]; omega
      · have hsk : s = k := by omega
        subst hsk
        have HB3 := hide (HI.out.below (B := w1.heap.size) (by omega) (Nat.le_refl _) (by omega))
        have HM3 := hide (topR_stays _ _ _ _ HM1.out (HB2.out.trans HB3.out))
        obtain ⟨u1, hc1, hQ1⟩ := RowR.at HM3.out HY'.out
        obtain ⟨A1, C1, hA1, -, -, -⟩ := RowR.form hQ1
        rw [show ((some ms).getD []) = ms from rfl, HL'.out] at hA1
        subst hA1
        rw [Nat.zero_add] at hc1
        have HQ1 := hide hQ1
        have HBf := hide ((HB1.out.trans (HB2.out.mono HB1.out.size)).trans (HB3.out.mono HB1.out.size))
        have HK3 : Hid (Keep (g2 + 1) w2 w3) := fun b h1 h2 => HI.out.rest b h2 (by omega) (by omega)
        clear hQ1
        go_wp2
        go_loopw [10] (fun j wr => ∃ t : Nat, t ≤ L ∧ j = .int .i64 t ∧ Hid (∃ m, wr = w3.drewN m)) (fun j _ => L - (intOf j).toNat)
        case atStart => exact ⟨0, by omega, rfl, 0, rfl⟩
        case round =>
          obtain ⟨t, ht, rfl, ⟨m, rfl⟩⟩ := hrel
          by_cases hltt : t < L
          · have b1 : (0 : Int) ≤ (t : Int) := by omega
            have b2 : (t : Int) < (L : Int) := by omega
            by_cases hts : t < s
            · have hct : w3.cell? ⟨g2, t, none⟩ = some (.slice none 0 0) := by
                rw [HI.out.row.cell t, List.getElem?_append_left (by simpa using hts)]
                simp [hts]
              have hnq := fun wx => run_neq_slice_nil_any (P := Try.prog) wx 28 5 none 0 0 0 0 Try.underlying28
              have hts' : (t : Int) < (s : Int) := by omega
              clear hc1
              go_wp2
              go_roundw
              case rel => exact ⟨t + 1, by omega, by go_num, _, rfl⟩
              case measure => simp [intOf]; omega
            · have hts' : ¬ (t : Int) < (s : Int) := by omega
              have hvt : vs[t]? = some (vs[t]'(by rw [HVL.out]; exact hltt)) := List.getElem?_eq_getElem _
              obtain ⟨A1', C1', hA1', -, -, hr1⟩ := RowR.form HQ1.out
              rw [show ((some ms).getD []) = ms from rfl, HL'.out] at hr1
              obtain ⟨g1, off1, z, v1, hA1e, hzt, hcz, hmz⟩ := hr1 t hltt
              simp only [Value.slice.injEq] at hA1'
              obtain ⟨hA1a, -, -⟩ := hA1'
              rw [hA1e] at hA1a
              subst hA1a
              have hm2 := msg_read _ _ _ _ (msg_stays _ _ _ _ _ (HMSG.out t _ z hvt hzt) HK3.out)
              have hct : w3.cell? ⟨g2, t, none⟩ = vs[t]? := by
                rw [HI.out.row.cell t, List.getElem?_append_right (by simp; omega), List.length_replicate, List.getElem?_drop, show s + (t - s) = t by omega]
              rw [hvt] at hct
              generalize (vs[t]'(by rw [HVL.out]; exact hltt)) = v2 at hct hm2
              have hzl : (z.getD []).length ≤ 1048576 := by
                cases z with
                | none => simp
                | some bs => exact HSm.out.2 bs (List.mem_of_getElem? hzt)
              have HQ := hide (fun nq => same_quiet v2 v1 z hzl w3 m nq hm2 hmz)
              obtain ⟨A2, C2, hA2, -, -, -⟩ := RowR.form hm2
              obtain ⟨A3, C3, hA3, -, -, -⟩ := RowR.form hmz
              subst hA2
              subst hA3
              clear hm2 hmz hvt hr1 hA1e
              go_wp2
              go_quiet ((go_at_call 8; exact HQ.out _))
              go_wp2
              go_roundw
              case rel => exact ⟨t + 1, by omega, by go_num, _, rfl⟩
              case measure => simp [intOf]; omega
          · go_wp2
            go_ret
            exact ⟨rfl, HBf.out.trans (drewN_below _ _ _)⟩
end Go.Proofs.Qxb6618384a
