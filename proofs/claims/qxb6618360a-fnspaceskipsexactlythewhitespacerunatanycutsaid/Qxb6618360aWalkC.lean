/-
  WALKS of seat b6618360a: the top function, the whole way.
-/
import Derived.Test.Qxb6618360aWalkB
namespace Go.Proofs.Qxb6618360a
open Go.RowKit
set_option linter.unusedVariables false

theorem rd_right {w : World} {T n : Nat} {bs : List Int} (hz : bs.length = n) (h : ∀ k, k < n → w.cell? ⟨T, 0 + k, none⟩ = some (.int .u8 (bs.getD k 0))) (k : Nat) : Rd w (some ⟨T, k, none⟩) (n - k) (bs.drop k) := by
  refine ⟨by simp [hz], fun h0 => ⟨T, k, rfl, fun j hj => ?_⟩⟩
  have := h (k + j) (by omega)
  rw [Nat.zero_add] at this
  rw [this]
  simp [List.getD]
theorem rd_left {w : World} {T n : Nat} {bs : List Int} (hz : bs.length = n) (h : ∀ k, k < n → w.cell? ⟨T, 0 + k, none⟩ = some (.int .u8 (bs.getD k 0))) (k : Nat) (hk : k ≤ n) : Rd w (some ⟨T, 0, none⟩) k (bs.take k) := by
  refine ⟨by simp [hz]; omega, fun h0 => ⟨T, 0, rfl, fun j hj => ?_⟩⟩
  rw [h j (by omega)]
  simp [List.getD, hj]
theorem rd_empty {w : World} {a : Option Addr} {n m : Nat} {bs : List Int} (hz : bs.length = n) (hm : m = 0) : Rd w a m (bs.drop n) :=
  ⟨by simp [hz, hm], fun h0 => by omega⟩
theorem cells_later {w w' : World} {T n : Nat} {bs : List Int} (h : ∀ k, k < n → w.cell? ⟨T, 0 + k, none⟩ = some (.int .u8 (bs.getD k 0))) (hT : T < w.heap.size) (hb : Below w.heap.size w w') :
    ∀ k, k < n → w'.cell? ⟨T, 0 + k, none⟩ = some (.int .u8 (bs.getD k 0)) := fun k hk => (hb.cell (by exact hT)).trans (h k hk)

set_option maxRecDepth 100000 in
set_option maxHeartbeats 2000000 in
theorem fn_past (x : Addr) (n c : Nat) (bs : List Int) (i k : Nat) (d : Int) (sp : Bool) (hn : n ≤ 1048576) (hi2 : i ≤ 9223372036854775807) (hk : k ≤ n) (hi : n < i) (w : World)
    (hz : Hid (bs.length = n)) (hc : Hid (∀ i, i < n → w.cell? (x.add i) = some (.int .u8 (bs.getD i 0)))) :
    Calls Try.prog 3 #[.slice (some x) n c, .int .i64 i, .int .i64 d, .bool sp, .int .i64 k] w fun e w' => e = .returned (.bool true) ∧ Below w.heap.size w w' := by
  have hnn := fun wx => run_neq_slice_nil_any (P := Try.prog) wx 22 5 (some x) n c 0 0 Try.underlying22
  obtain ⟨i0, hi0, hz0, hz1, hz2⟩ := info_parts Try.info5
  have hkI : (k : Int) ≤ (n : Int) := by omega
  have hJ := Pl.SP_right bs i k (by omega)
  rw [Pl.SP_past bs i (by rw [hz.out]; omega)] at hJ
  have hJle : k + Pl.SP (bs.drop k) (i - k) ≤ 9223372036854775807 := by omega
  have HJ := hide hJ
  clear hJ
  go_enter Try.func3, Try.ntmps3
  go_wp2_with (first | (go_at_call 4; refine (bytes_ok _ _ _ _ _ _ _ _ hn).mono ?_; rintro e w' ⟨rfl, rfl⟩) | (at_make; refine wpList_make_full _ rfl (.tmp 49) (.tmp 49) 22 rfl w.heap.size 5 i0 (.int .u8 0) 1 Try.underlying22 hi0 hz0 hz1 .i64 .i64 _ _ n rfl rfl (by omega) (by omega) (by rw [hz2]; omega) (by unfold maxLen; omega) (Nat.le_refl _) ?_; intro w1 hown hgrow; obtain ⟨w2, hcp, hc2, hb2, hs2⟩ := copy_made (c := c) hown hgrow hz.out hc.out; have HC2 := hide hc2; clear hc2 hown hgrow))
  refine (zzspace _ n n bs i _ d sp i sp rfl hn hi2 _ ⟨hz.out, fun _ => ⟨_, 0, rfl, HC2.out⟩⟩ (Pl.SP_past bs i (by rw [hz.out]; omega)) (by simp)).mono ?_
  rintro e w3 ⟨rfl, hb3⟩
  have HC3 := hide (cells_later HC2.out (by omega) hb3)
  have hs3 := hb3.size
  clear hcp hi0 hz0 hz1 hz2
  by_cases hkn : k < n
  · go_wp2_with fail
    refine (zzspace _ _ _ (bs.drop k) (i - k) _ d sp (Pl.SP (bs.drop k) (i - k)) _ (by omega) (by omega) (by omega) _ (rd_right hz.out HC3.out k) rfl rfl).mono ?_
    rintro e w4 ⟨rfl, hb4⟩
    go_wp2
    go_ret
    exact ⟨ret_bool (by have := HJ.out; simp; omega), (hb2.trans (hb3.mono (by omega))).trans (hb4.mono (by omega))⟩
  · have hkn' : k = n := by omega
    subst hkn'
    go_wp2_with fail
    refine (zzspace _ _ _ (bs.drop k) (i - k) _ d sp (Pl.SP (bs.drop k) (i - k)) _ (by omega) (by omega) (by omega) _ (rd_empty hz.out (by omega)) rfl rfl).mono ?_
    rintro e w4 ⟨rfl, hb4⟩
    go_wp2
    go_ret
    exact ⟨ret_bool (by have := HJ.out; simp; omega), (hb2.trans (hb3.mono (by omega))).trans (hb4.mono (by omega))⟩

set_option maxRecDepth 100000 in
set_option maxHeartbeats 4000000 in
theorem fn_in_true (x : Addr) (n c : Nat) (bs : List Int) (i k J : Nat) (d : Int) (hn : n ≤ 1048576) (hk : k ≤ n) (hi : i ≤ n) (hJi : i ≤ J) (hJn : J ≤ n)  (w : World)
    (hz : Hid (bs.length = n)) (hc : Hid (∀ i, i < n → w.cell? (x.add i) = some (.int .u8 (bs.getD i 0)))) (hJ : Hid (Pl.SP bs i = J)) :
    Calls Try.prog 3 #[.slice (some x) n c, .int .i64 i, .int .i64 d, .bool true, .int .i64 k] w fun e w' => e = .returned (.bool true) ∧ Below w.heap.size w w' := by
  have hnn := fun wx => run_neq_slice_nil_any (P := Try.prog) wx 22 5 (some x) n c 0 0 Try.underlying22
  obtain ⟨i0, hi0, hz0, hz1, hz2⟩ := info_parts Try.info5
  have hkI : (k : Int) ≤ (n : Int) := by omega
  have hd1 : decide ((1048576 : Int) < (n : Int)) = false := decide_eq_false (by omega)
  have hd2 : decide ((i : Int) < 0) = false := decide_eq_false (by omega)
  have hd3 : decide ((k : Int) < 0) = false := decide_eq_false (by omega)
  have hd4 : decide ((n : Int) < (i : Int)) = false := decide_eq_false (by omega)
  have hd5 : decide ((J : Int) < (i : Int)) = false := decide_eq_false (by omega)
  have hd6 : decide ((n : Int) < (J : Int)) = false := decide_eq_false (by omega)
  have hd7 : decide (J < i) = false := decide_eq_false (by omega)
  have hd8 : decide (n < J) = false := decide_eq_false (by omega)
  have hd9 : decide (n < i) = false := decide_eq_false (by omega)
  go_enter Try.func3, Try.ntmps3
  go_wp2_with (first | (go_at_call 4; refine (bytes_ok _ _ _ _ _ _ _ _ hn).mono ?_; rintro e w' ⟨rfl, rfl⟩) | (at_make; refine wpList_make_full _ rfl (.tmp 49) (.tmp 49) 22 rfl w.heap.size 5 i0 (.int .u8 0) 1 Try.underlying22 hi0 hz0 hz1 .i64 .i64 _ _ n rfl rfl (by omega) (by omega) (by rw [hz2]; omega) (by unfold maxLen; omega) (Nat.le_refl _) ?_; intro w1 hown hgrow; obtain ⟨w2, hcp, hc2, hb2, hs2⟩ := copy_made (c := c) hown hgrow hz.out hc.out; have HC2 := hide hc2; clear hc2 hown hgrow))
  refine (zzspace _ n n bs i _ d true J true rfl hn (by omega) _ ⟨hz.out, fun _ => ⟨_, 0, rfl, HC2.out⟩⟩ hJ.out (by simp)).mono ?_
  rintro e w3 ⟨rfl, hb3⟩
  have HC3 := hide (cells_later HC2.out (by omega) hb3)
  have hs3 := hb3.size
  have HB3 := hide (hb2.trans (hb3.mono (by omega)))
  clear hcp hi0 hz0 hz1 hz2 hb2 hb3
  go_wp2
  go_loop [15] (fun j => ∃ p : Nat, i ≤ p ∧ p ≤ J ∧ j = .int .i64 p) (fun j => J - (intOf j).toNat)
  case atStart => exact ⟨i, by omega, by omega, rfl⟩
  case round =>
    obtain ⟨p, hp1, hp2, rfl⟩ := hrel
    by_cases hlt : p < J
    · have hcell := HC3.out p (by omega)
      rw [Nat.zero_add] at hcell
      have hw : Pl.ws (bs[p]?.getD 0) = true := by
        have := Pl.SP_in bs i p hp1 (by rw [hJ.out]; exact hlt)
        simpa [List.getD] using this
      go_wp2_with (go_at_call 6; refine (zzWS_any _ _).mono ?_; rintro e w' ⟨rfl, rfl⟩)
      go_round
      case rel => exact ⟨p + 1, by omega, by omega, by go_num⟩
      case measure => simp [intOf]; omega
    · have hpJ : p = J := by omega
      subst hpJ
      by_cases hJl : p < n
      · have hcell := HC3.out p hJl
        rw [Nat.zero_add] at hcell
        have hw : Pl.ws (bs[p]?.getD 0) = false := by
          have := Pl.SP_end bs i (by rw [hz.out]; exact hi) (by rw [hJ.out, hz.out]; exact hJl)
          rw [hJ.out] at this
          simpa [List.getD] using this
        by_cases hki : k ≤ i
        · have hr := Pl.SP_right bs i k hki
          rw [hJ.out] at hr
          have hrl : k + Pl.SP (bs.drop k) (i - k) ≤ n := by omega
          have HR := hide hr
          clear hr
          by_cases hkn : k < n
          · go_wp2_with (go_at_call 6; refine (zzWS_any _ _).mono ?_; rintro e w' ⟨rfl, rfl⟩)
            refine (zzspace _ _ _ (bs.drop k) (i - k) _ d true (Pl.SP (bs.drop k) (i - k)) _ (by omega) (by omega) (by omega) _ (rd_right hz.out HC3.out k) rfl rfl).mono ?_
            rintro e w5 ⟨rfl, hb5⟩
            go_wp2
            go_ret
            exact ⟨ret_bool (by have := HR.out; simp; omega), HB3.out.trans (hb5.mono (by omega))⟩
          · have hik : i = k := by omega
            have hkn' : k = n := by omega
            subst hik
            subst hkn'
            have HR' : Hid (i + Pl.SP (bs.drop i) 0 = p) := by have := HR.out; rw [Nat.sub_self] at this; exact this
            rw [Nat.sub_self] at hrl
            clear HR
            have HR := HR'
            go_wp2_with (go_at_call 6; refine (zzWS_any _ _).mono ?_; rintro e w' ⟨rfl, rfl⟩)
            refine (zzspace _ _ _ (bs.drop i) 0 _ d true (Pl.SP (bs.drop i) 0) _ (by omega) (by omega) (by omega) _ (rd_empty hz.out (by omega)) rfl rfl).mono ?_
            rintro e w5 ⟨rfl, hb5⟩
            go_wp2
            go_ret
            exact ⟨ret_bool (by have := HR.out; simp; omega), HB3.out.trans (hb5.mono (by omega))⟩
        · have hki' : i < k := by omega
          have hr := Pl.SP_left bs i k hki' (by rw [hz.out]; exact hk)
          rw [hJ.out] at hr
          have hJ1 := Pl.SP_le (bs.take k) i (by simp [hz.out]; omega)
          have hJ1' := Pl.SP_ge (bs.take k) i
          simp only [List.length_take, hz.out] at hJ1
          by_cases hj1 : Pl.SP (bs.take k) i < k
          · rw [if_pos hj1] at hr
            have HR := hide hr
            clear hr
            go_wp2_with (go_at_call 6; refine (zzWS_any _ _).mono ?_; rintro e w' ⟨rfl, rfl⟩)
            refine (zzspace _ _ _ (bs.take k) i _ d false (Pl.SP (bs.take k) i) _ rfl (by omega) (by omega) _ (rd_left hz.out HC3.out k hk) rfl rfl).mono ?_
            rintro e w4 ⟨rfl, hb4⟩
            go_wp2
            go_ret
            exact ⟨ret_bool (by have := HR.out; simp; omega), HB3.out.trans (hb4.mono (by omega))⟩
          · rw [if_neg hj1] at hr
            have hrl : k + Pl.SP (bs.drop k) 0 ≤ n := by omega
            have HR := hide hr
            clear hr
            go_wp2_with (go_at_call 6; refine (zzWS_any _ _).mono ?_; rintro e w' ⟨rfl, rfl⟩)
            refine (zzspace _ _ _ (bs.take k) i _ d false (Pl.SP (bs.take k) i) _ rfl (by omega) (by omega) _ (rd_left hz.out HC3.out k hk) rfl rfl).mono ?_
            rintro e w4 ⟨rfl, hb4⟩
            have HC4 := hide (cells_later HC3.out (by omega) hb4)
            have hs4 := hb4.size
            have HB4 := hide (HB3.out.trans (hb4.mono (by omega)))
            clear hb4
            by_cases hkn : k < n
            · go_wp2_with (go_at_call 6; refine (zzWS_any _ _).mono ?_; rintro e w' ⟨rfl, rfl⟩)
              refine (zzspace _ _ _ (bs.drop k) 0 _ d false (Pl.SP (bs.drop k) 0) _ (by omega) (by omega) (by omega) _ (rd_right hz.out HC4.out k) rfl rfl).mono ?_
              rintro e w5 ⟨rfl, hb5⟩
              go_wp2
              go_ret
              exact ⟨ret_bool (by have := HR.out; simp; omega), HB4.out.trans (hb5.mono (by omega))⟩
            · have hkn' : k = n := by omega
              subst hkn'
              go_wp2_with (go_at_call 6; refine (zzWS_any _ _).mono ?_; rintro e w' ⟨rfl, rfl⟩)
              refine (zzspace _ _ _ (bs.drop k) 0 _ d false (Pl.SP (bs.drop k) 0) _ (by omega) (by omega) (by omega) _ (rd_empty hz.out (by omega)) rfl rfl).mono ?_
              rintro e w5 ⟨rfl, hb5⟩
              go_wp2
              go_ret
              exact ⟨ret_bool (by have := HR.out; simp; omega), HB4.out.trans (hb5.mono (by omega))⟩
      · by_cases hki : k ≤ i
        · have hr := Pl.SP_right bs i k hki
          rw [hJ.out] at hr
          have hrl : k + Pl.SP (bs.drop k) (i - k) ≤ n := by omega
          have HR := hide hr
          clear hr
          by_cases hkn : k < n
          · go_wp2_with (go_at_call 6; refine (zzWS_any _ _).mono ?_; rintro e w' ⟨rfl, rfl⟩)
            refine (zzspace _ _ _ (bs.drop k) (i - k) _ d true (Pl.SP (bs.drop k) (i - k)) _ (by omega) (by omega) (by omega) _ (rd_right hz.out HC3.out k) rfl rfl).mono ?_
            rintro e w5 ⟨rfl, hb5⟩
            go_wp2
            go_ret
            exact ⟨ret_bool (by have := HR.out; simp; omega), HB3.out.trans (hb5.mono (by omega))⟩
          · have hik : i = k := by omega
            have hkn' : k = n := by omega
            subst hik
            subst hkn'
            have HR' : Hid (i + Pl.SP (bs.drop i) 0 = p) := by have := HR.out; rw [Nat.sub_self] at this; exact this
            rw [Nat.sub_self] at hrl
            clear HR
            have HR := HR'
            go_wp2_with (go_at_call 6; refine (zzWS_any _ _).mono ?_; rintro e w' ⟨rfl, rfl⟩)
            refine (zzspace _ _ _ (bs.drop i) 0 _ d true (Pl.SP (bs.drop i) 0) _ (by omega) (by omega) (by omega) _ (rd_empty hz.out (by omega)) rfl rfl).mono ?_
            rintro e w5 ⟨rfl, hb5⟩
            go_wp2
            go_ret
            exact ⟨ret_bool (by have := HR.out; simp; omega), HB3.out.trans (hb5.mono (by omega))⟩
        · have hki' : i < k := by omega
          have hr := Pl.SP_left bs i k hki' (by rw [hz.out]; exact hk)
          rw [hJ.out] at hr
          have hJ1 := Pl.SP_le (bs.take k) i (by simp [hz.out]; omega)
          have hJ1' := Pl.SP_ge (bs.take k) i
          simp only [List.length_take, hz.out] at hJ1
          by_cases hj1 : Pl.SP (bs.take k) i < k
          · rw [if_pos hj1] at hr
            have HR := hide hr
            clear hr
            go_wp2_with (go_at_call 6; refine (zzWS_any _ _).mono ?_; rintro e w' ⟨rfl, rfl⟩)
            refine (zzspace _ _ _ (bs.take k) i _ d false (Pl.SP (bs.take k) i) _ rfl (by omega) (by omega) _ (rd_left hz.out HC3.out k hk) rfl rfl).mono ?_
            rintro e w4 ⟨rfl, hb4⟩
            go_wp2
            go_ret
            exact ⟨ret_bool (by have := HR.out; simp; omega), HB3.out.trans (hb4.mono (by omega))⟩
          · rw [if_neg hj1] at hr
            have hrl : k + Pl.SP (bs.drop k) 0 ≤ n := by omega
            have HR := hide hr
            clear hr
            go_wp2_with (go_at_call 6; refine (zzWS_any _ _).mono ?_; rintro e w' ⟨rfl, rfl⟩)
            refine (zzspace _ _ _ (bs.take k) i _ d false (Pl.SP (bs.take k) i) _ rfl (by omega) (by omega) _ (rd_left hz.out HC3.out k hk) rfl rfl).mono ?_
            rintro e w4 ⟨rfl, hb4⟩
            have HC4 := hide (cells_later HC3.out (by omega) hb4)
            have hs4 := hb4.size
            have HB4 := hide (HB3.out.trans (hb4.mono (by omega)))
            clear hb4
            by_cases hkn : k < n
            · go_wp2_with (go_at_call 6; refine (zzWS_any _ _).mono ?_; rintro e w' ⟨rfl, rfl⟩)
              refine (zzspace _ _ _ (bs.drop k) 0 _ d false (Pl.SP (bs.drop k) 0) _ (by omega) (by omega) (by omega) _ (rd_right hz.out HC4.out k) rfl rfl).mono ?_
              rintro e w5 ⟨rfl, hb5⟩
              go_wp2
              go_ret
              exact ⟨ret_bool (by have := HR.out; simp; omega), HB4.out.trans (hb5.mono (by omega))⟩
            · have hkn' : k = n := by omega
              subst hkn'
              go_wp2_with (go_at_call 6; refine (zzWS_any _ _).mono ?_; rintro e w' ⟨rfl, rfl⟩)
              refine (zzspace _ _ _ (bs.drop k) 0 _ d false (Pl.SP (bs.drop k) 0) _ (by omega) (by omega) (by omega) _ (rd_empty hz.out (by omega)) rfl rfl).mono ?_
              rintro e w5 ⟨rfl, hb5⟩
              go_wp2
              go_ret
              exact ⟨ret_bool (by have := HR.out; simp; omega), HB4.out.trans (hb5.mono (by omega))⟩
end Go.Proofs.Qxb6618360a
