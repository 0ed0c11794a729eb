/-
  WALKS of seat b6618384a: copyQueues.
-/
import Derived.Test.Qxb6618384aWalkB
namespace Go.Proofs.Qxb6618384a
open Go.RowKit
set_option linter.unusedVariables false

theorem Try.info5 : (Try.prog.info? 5).map (fun i => (i.zero, i.size, i.bytes)) = some (some (.int .u8 0), 1, 1) := by kernel_rfl
theorem Try.info25 : (Try.prog.info? 25).map (fun i => (i.zero, i.size, i.bytes)) = some (some (.slice none 0 0), 1, 24) := by kernel_rfl
theorem Try.info28 : (Try.prog.info? 28).map (fun i => (i.zero, i.size, i.bytes)) = some (some (.slice none 0 0), 1, 24) := by kernel_rfl

theorem grown_below {w w1 : World} (h : w.grownBy w1 none) : Below w.heap.size w w1 := (Below.refl _ _).grown h (Nat.le_refl _) (fun k e => by cases e)

set_option maxRecDepth 100000 in
set_option maxHeartbeats 4000000 in
theorem copy_any (a : Addr) (n c : Nat) (q : List (Option (List (Option (List Int))))) (hq : q.length = n) (hs : Small q) (w : World) (h : TopR w (.slice (some a) n c) (some q)) :
    Calls Try.prog 6 #[.slice (some a) n c] w fun e w' => e = .returned (.slice (some ⟨w.heap.size, 0, none⟩) n n) ∧ TopF w' w.heap.size (.slice (some ⟨w.heap.size, 0, none⟩) n n) (some q) ∧ Below w.heap.size w w' := by
  obtain ⟨A, C, hA, _, _, hr⟩ := RowR.form h
  simp only [Value.slice.injEq] at hA
  obtain ⟨rfl, -, rfl⟩ := hA
  rw [show ((some q).getD []) = q from rfl, hq] at hr
  have HR := hide hr
  have HQ := hide hq
  have hn : n ≤ 1048576 := by rw [← hq]; exact hs.1
  have HS := hide hs.2
  have hn22 := fun wx x n c => Lib.run_eql_slice_nil (P := Try.prog) wx 22 25 x n c 0 0 Try.underlying22
  have hn25 := fun wx x n c => Lib.run_eql_slice_nil (P := Try.prog) wx 25 28 x n c 0 0 Try.underlying25
  have hn28 := fun wx x n c => Lib.run_eql_slice_nil (P := Try.prog) wx 28 5 x n c 0 0 Try.underlying28
  obtain ⟨i5, hi5, hz5a, hz5b, hz5c⟩ := info_parts Try.info5
  obtain ⟨i25, hi25, hz25a, hz25b, hz25c⟩ := info_parts Try.info25
  obtain ⟨i28, hi28, hz28a, hz28b, hz28c⟩ := info_parts Try.info28
  clear hr hq hs h
  go_enter Try.func6, Try.ntmps6
  go_wp2_with (at_make; refine wpList_make_full _ rfl (.tmp 13) (.tmp 13) 22 rfl w.heap.size 25 i25 (.slice none 0 0) 1 Try.underlying22 hi25 hz25a hz25b .i64 .i64 _ _ n rfl rfl (by omega) (by omega) (by rw [hz25c]; omega) (by unfold maxLen; omega) (Nat.le_refl _) ?_; intro w1 hown hgrow)
  have HI := hide (Part.start (E := QueF) HQ.out rfl hown)
  have HB1 := hide (grown_below hgrow)
  clear hown hgrow hi25 hz25a hz25b hz25c
  go_loopw [4] (fun j wr => ∃ k : Nat, k ≤ n ∧ j = .int .i64 k ∧ Hid (Part QueF 25 (.slice none 0 0) wr w.heap.size q k) ∧ Hid (Below w.heap.size w wr)) (fun j _ => n - (intOf j).toNat)
  case atStart => exact ⟨0, by omega, rfl, HI, HB1⟩
  case round =>
    obtain ⟨k, hk, rfl, HP, HB⟩ := hrel
    rename World => wo
    clear HI HB1
    by_cases hlt : k < n
    · obtain ⟨g, off, y, u, ha, hy, hu, hqr⟩ := HR.out k hlt
      cases ha
      have hgT : g < w.heap.size := World.block_lt_of_cell? w _ hu
      have hu1 : wo.cell? ⟨g, off + k, none⟩ = some u := (HB.out.cell (by exact hgT)).trans hu
      have HU := hide hu
      have HY := hide hy
      clear hu hy
      cases y with
      | none =>
        rcases hqr with ⟨_, rfl⟩ | ⟨_, _, _, h, _⟩
        · have HP' := hide (HP.out.skip HY.out (Or.inl ⟨rfl, rfl⟩))
          go_wp2
          go_roundw
          case rel => exact ⟨k + 1, by omega, by go_num, HP', HB⟩
          case measure => simp [intOf]; omega
        · cases h
      | some ms =>
        obtain ⟨A', C', hA', _, hAn, hr'⟩ := RowR.form hqr
        rw [show ((some ms).getD []) = ms from rfl] at hA' hr'
        subst hA'
        obtain ⟨L, hL⟩ : ∃ L, ms.length = L := ⟨_, rfl⟩
        obtain ⟨hLs, hbs⟩ := HS.out ms (List.mem_of_getElem? HY.out)
        rw [hL] at hLs hu1 hr'
        cases A' with
        | none => exact absurd (hAn rfl) (by simp)
        | some a' =>
          have HL := hide hL
          have HR' := hide hr'
          have HS' := hide hbs
          clear hL hr' hbs hAn hqr HU
          obtain ⟨hcl, hfz⟩ := HP.out.cell (by rw [HQ.out]; exact hlt)
          have hTw := HP.out.lt
          clear hcl hfz
          go_wp2_with (at_make; refine wpList_make_full _ rfl (.tmp 30) (.tmp 30) 25 rfl wo.heap.size 28 i28 (.slice none 0 0) 1 Try.underlying25 hi28 hz28a hz28b .i64 .i64 _ _ L rfl rfl (by omega) (by omega) (by rw [hz28c]; omega) (by unfold maxLen; omega) (Nat.le_refl _) ?_; intro w2 hown2 hgrow2)
          have HI2 := hide (Part.start (E := MsgF) HL.out rfl hown2)
          have HB2 := hide (grown_below hgrow2)
          clear hown2 hgrow2
          go_loopw [6] (fun j wr2 => ∃ t : Nat, t ≤ L ∧ j = .int .i64 t ∧ Hid (Part MsgF 28 (.slice none 0 0) wr2 wo.heap.size ms t) ∧ Hid (Below wo.heap.size wo wr2)) (fun j _ => L - (intOf j).toNat)
          case atStart => exact ⟨0, by omega, rfl, HI2, HB2⟩
          case round =>
            obtain ⟨t, ht, rfl, HP2, HBm⟩ := hrel
            rename World => wm
            clear HI2 HB2
            have hu2 : wm.cell? ⟨g, off + k, none⟩ = some (.slice (some a') L C') := (HBm.out.cell (p := ⟨g, off + k, none⟩) (Nat.lt_of_lt_of_le hgT HB.out.size)).trans hu1
            by_cases hlt2 : t < L
            · obtain ⟨g', off', z, u', ha', hz, hu', hmr⟩ := HR'.out t hlt2
              cases ha'
              have hgT' : g' < w.heap.size := World.block_lt_of_cell? w _ hu'
              have HBw := hide (HB.out.trans (HBm.out.mono HB.out.size))
              have hu3 : wm.cell? ⟨g', off' + t, none⟩ = some u' := (HBw.out.cell (p := ⟨g', off' + t, none⟩) hgT').trans hu'
              have HZ := hide hz
              clear hu' hz
              cases z with
              | none =>
                rcases hmr with ⟨_, rfl⟩ | ⟨_, _, _, h, _⟩
                · have HP2' := hide (HP2.out.skip HZ.out (Or.inl ⟨rfl, rfl⟩))
                  clear hu1
                  go_wp2
                  go_roundw
                  case rel => exact ⟨t + 1, by omega, by go_num, HP2', HBm⟩
                  case measure => simp [intOf]; omega
                · cases h
              | some bs =>
                obtain ⟨A'', C'', hA'', _, hAn'', hr''⟩ := RowR.form hmr
                rw [show ((some bs).getD []) = bs from rfl] at hA'' hr''
                subst hA''
                obtain ⟨M, hM⟩ : ∃ M, bs.length = M := ⟨_, rfl⟩
                have hMs := HS'.out bs (List.mem_of_getElem? HZ.out)
                rw [hM] at hMs hu3 hr''
                cases A'' with
                | none => exact absurd (hAn'' rfl) (by simp)
                | some a'' =>
                  have HM := hide hM
                  have HR'' := hide hr''
                  clear hM hr'' hAn'' hmr hu1
                  have hQw := HP2.out.lt
                  go_wp2_with (at_make; refine wpList_make_full _ rfl (.tmp 51) (.tmp 51) 28 rfl wm.heap.size 5 i5 (.int .u8 0) 1 Try.underlying28 hi5 hz5a hz5b .i64 .i64 _ _ M rfl rfl (by omega) (by omega) (by rw [hz5c]; omega) (by unfold maxLen; omega) (Nat.le_refl _) ?_; intro w3 hown3 hgrow3)
                  have HI3 := hide (Part.start (E := ByteF) HM.out rfl hown3)
                  have HB3 := hide (grown_below hgrow3)
                  clear hown3 hgrow3
                  go_loopw [9] (fun j wr3 => ∃ e : Nat, e ≤ M ∧ j = .int .i64 e ∧ Hid (Part ByteF 5 (.int .u8 0) wr3 wm.heap.size bs e) ∧ Hid (Below wm.heap.size wm wr3)) (fun j _ => M - (intOf j).toNat)
                  case atStart => exact ⟨0, by omega, rfl, HI3, HB3⟩
                  case round =>
                    obtain ⟨e, he, rfl, HP3, HBi⟩ := hrel
                    rename World => wi
                    clear HI3 HB3
                    by_cases hlt3 : e < M
                    · obtain ⟨g'', off'', b, u'', ha'', hb, hu'', hbr⟩ := HR''.out e hlt3
                      cases ha''
                      cases hbr
                      have hgT'' : g'' < w.heap.size := World.block_lt_of_cell? w _ hu''
                      have hu4 : wi.cell? ⟨g'', off'' + e, none⟩ = some (.int .u8 b) := ((HBw.out.trans (HBi.out.mono HBw.out.size)).cell (p := ⟨g'', off'' + e, none⟩) hgT'').trans hu''
                      obtain ⟨hcl, hfz⟩ := HP3.out.cell (by rw [HM.out]; exact hlt3)
                      have HP3' := hide (HP3.out.store byte_stays hb (v := .int .u8 b) rfl)
                      have HBi' := hide (HBi.out.setCell (p := ⟨wm.heap.size, e, none⟩) (Nat.le_refl _) (.int .u8 b))
                      clear hu'' hb hu2 hu3
                      go_wp2
                      go_roundw
                      case rel => exact ⟨e + 1, by omega, by go_num, HP3', HBi'⟩
                      case measure => simp [intOf]; omega
                    · have HF := hide (Part.done (lo := wo.heap.size + 1) HP3.out HM.out (by omega) hQw)
                      have HP2k := hide (HP2.out.keep msg_stays (Keep.of_below HBi.out))
                      obtain ⟨hcl, hfz⟩ := HP2k.out.cell (by rw [HL.out]; exact hlt2)
                      have HP2' := hide (HP2k.out.store msg_stays HZ.out (v := .slice (some ⟨wm.heap.size, 0, none⟩) M M) HF.out)
                      have HBm' := hide ((HBm.out.trans (HBi.out.mono (by omega))).setCell (p := ⟨wo.heap.size, t, none⟩) (Nat.le_refl _) (.slice (some ⟨wm.heap.size, 0, none⟩) M M))
                      clear hu2 hu3
                      go_wp2
                      go_roundw
                      case rel => exact ⟨t + 1, by omega, by go_num, HP2', HBm'⟩
                      case measure => simp [intOf]; omega
            · have HF := hide (Part.done (lo := w.heap.size + 1) HP2.out HL.out (by omega) hTw)
              have HPk := hide (HP.out.keep que_stays (Keep.of_below HBm.out))
              obtain ⟨hcl, hfz⟩ := HPk.out.cell (by rw [HQ.out]; exact hlt)
              have HP' := hide (HPk.out.store que_stays HY.out (v := .slice (some ⟨wo.heap.size, 0, none⟩) L L) HF.out)
              have HB' := hide ((HB.out.trans (HBm.out.mono (by omega))).setCell (p := ⟨w.heap.size, k, none⟩) (Nat.le_refl _) (.slice (some ⟨wo.heap.size, 0, none⟩) L L))
              clear hu1
              go_wp2
              go_roundw
              case rel => exact ⟨k + 1, by omega, by go_num, HP', HB'⟩
              case measure => simp [intOf]; omega
    · have HF := hide (Part.done (lo := w.heap.size) HP.out HQ.out (by omega) (Nat.le_refl _))
      go_wp2
      go_ret
      exact ⟨rfl, HF.out, HB.out⟩
end Go.Proofs.Qxb6618384a
