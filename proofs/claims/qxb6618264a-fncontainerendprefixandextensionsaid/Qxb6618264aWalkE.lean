/-
  WALKS of seat b6618264a: FnContainerEndPrefixAndExtension.
-/
import Derived.Test.Qxb6618264aWalkD
namespace Go.Proofs.Qxb6618264a
open Go.RowKit
set_option linter.unusedVariables false

/-! ### plain -/
theorem CE_le (b : List Int) (i : Nat) (d : Int) (hi : i ≤ b.length) : i ≤ Pl.CE b i d ∧ Pl.CE b i d ≤ b.length := by
  unfold Pl.CE
  have := Pl.ce_le (b.drop i) d false false
  simp only [List.length_drop] at this
  omega
theorem CE_lt (b : List Int) (i : Nat) (d : Int) (hi : i < b.length) : i < Pl.CE b i d := by
  unfold Pl.CE
  rw [Pl.drop_cons b i hi]
  have := Pl.ce_pos d false false (b.getD i 0) (b.drop (i + 1))
  omega
theorem CE_last (b : List Int) (i : Nat) (d : Int) (hi : i < b.length) (h : Pl.CE b i d < b.length) : b.getD (Pl.CE b i d - 1) 0 = 125 ∨ b.getD (Pl.CE b i d - 1) 0 = 93 := by
  have h2 := CE_lt b i d hi
  unfold Pl.CE at h h2 ⊢
  have hl := Pl.ce_last (b.drop i) d false false (by simp only [List.length_drop]; omega)
  have e : ∀ m, (b.drop i).getD m 0 = b.getD (i + m) 0 := by intro m; simp [List.getD]
  rw [e] at hl
  rw [show i + Pl.ce d false false (b.drop i) - 1 = i + (Pl.ce d false false (b.drop i) - 1) by omega]
  exact hl
theorem CE_ext (p b c : List Int) (i : Nat) (d : Int) (hi : i ≤ b.length) :
    p.length ≤ Pl.CE (p ++ b ++ c) (p.length + i) d ∧ Pl.CE (p ++ b ++ c) (p.length + i) d ≤ p.length + b.length + c.length ∧ min (Pl.CE (p ++ b ++ c) (p.length + i) d - p.length) b.length = Pl.CE b i d := by
  have h1 := CE_le (p ++ b ++ c) (p.length + i) d (by simp; omega)
  simp only [List.length_append] at h1
  refine ⟨by omega, h1.2, ?_⟩
  unfold Pl.CE
  have e : (p ++ b ++ c).drop (p.length + i) = b.drop i ++ c := by
    rw [List.append_assoc, ← List.drop_drop, List.drop_left, List.drop_append_of_le_length hi]
  rw [e]
  have := Pl.ce_ext c (b.drop i) d false false
  simp only [List.length_drop] at this
  omega

theorem ret_bool {a b : Bool} (h : a = b) : Ending.returned (.bool a) = .returned (.bool b) := by rw [h]

theorem zz_at (g off n c : Nat) (bs : List Int) (hl : bs.length = n) (hn : n ≤ 1048576) (i : Nat) (hi : i ≤ n) (I : Int) (hI : I = (i : Int)) (r : Nat) (hr : Pl.CE bs i 0 = r) (w : World)
    (hc : ∀ k, k < n → w.cell? ⟨g, off + k, none⟩ = some (.int .u8 (bs.getD k 0))) :
    Calls Try.prog 12 #[.slice (some ⟨g, off, none⟩) n c, .int .i64 I] w fun e w' => e = .returned (.int .i64 (r : Int)) ∧ w = w' := by
  subst hI
  subst hr
  exact zz_pos g off n c bs hl hn i hi w hc

/-- whatever the lengths -/
theorem bytes3_any (a0 a1 a2 : Option Addr) (n0 n1 n2 c0 c1 c2 : Nat) (i : Int) (w : World) :
    Calls Try.prog 21 #[.slice a0 n0 c0, .slice a1 n1 c1, .slice a2 n2 c2, .int .i64 i] w fun e w' => ∃ b, e = .returned (.bool b) ∧ w = w' := by
  go_enter Try.func21, Try.ntmps21
  go_wp2
  all_goals (go_ret; exact ⟨_, rfl, rfl⟩)

theorem bytes3_ok (a0 a1 a2 : Option Addr) (n0 n1 n2 c0 c1 c2 : Nat) (i : Int) (w : World) (h0 : n0 ≤ 262144) (h1 : n1 ≤ 262144) (h2 : n2 ≤ 262144) :
    Calls Try.prog 21 #[.slice a0 n0 c0, .slice a1 n1 c1, .slice a2 n2 c2, .int .i64 i] w fun e w' => e = .returned (.bool true) ∧ w = w' := by
  go_enter Try.func21, Try.ntmps21
  go_wp2
  go_ret
  exact ⟨rfl, rfl⟩

/-- One of the three is too long: true at once. -/
theorem ext_long (a0 a1 a2 : Option Addr) (n0 n1 n2 c0 c1 c2 : Nat) (i : Int) (w : World) (h : ¬ (n0 ≤ 262144 ∧ n1 ≤ 262144 ∧ n2 ≤ 262144)) :
    Calls Try.prog 7 #[.slice a0 n0 c0, .slice a1 n1 c1, .slice a2 n2 c2, .int .i64 i] w fun e w' => e = .returned (.bool true) ∧ Below w.heap.size w w' := by
  by_cases h0 : n0 ≤ 262144
  · by_cases h1 : n1 ≤ 262144
    · have h2 : ¬ n2 ≤ 262144 := fun h2 => h ⟨h0, h1, h2⟩
      clear h
      go_enter Try.func7, Try.ntmps7
      go_wp2_with (go_at_call 21; refine (bytes3_any _ _ _ _ _ _ _ _ _ _ _).mono ?_; rintro e w' ⟨b, rfl, rfl⟩)
      all_goals (go_ret; exact ⟨rfl, Below.refl _ _⟩)
    · clear h
      go_enter Try.func7, Try.ntmps7
      go_wp2_with (go_at_call 21; refine (bytes3_any _ _ _ _ _ _ _ _ _ _ _).mono ?_; rintro e w' ⟨b, rfl, rfl⟩)
      all_goals (go_ret; exact ⟨rfl, Below.refl _ _⟩)
  · clear h
    go_enter Try.func7, Try.ntmps7
    go_wp2_with (go_at_call 21; refine (bytes3_any _ _ _ _ _ _ _ _ _ _ _).mono ?_; rintro e w' ⟨b, rfl, rfl⟩)
    all_goals (go_ret; exact ⟨rfl, Below.refl _ _⟩)

/-- The start is negative: true at once. -/
theorem ext_neg (a0 a1 a2 : Option Addr) (n0 n1 n2 c0 c1 c2 : Nat) (i : Int) (w : World) (h0 : n0 ≤ 262144) (h1 : n1 ≤ 262144) (h2 : n2 ≤ 262144) (hi : i < 0) :
    Calls Try.prog 7 #[.slice a0 n0 c0, .slice a1 n1 c1, .slice a2 n2 c2, .int .i64 i] w fun e w' => e = .returned (.bool true) ∧ Below w.heap.size w w' := by
  go_enter Try.func7, Try.ntmps7
  go_wp2_with (go_at_call 21; refine (bytes3_ok _ _ _ _ _ _ _ _ _ _ _ h0 h1 h2).mono ?_; rintro e w' ⟨rfl, rfl⟩)
  go_ret
  exact ⟨rfl, Below.refl _ _⟩

/-- b is nil. -/
theorem ext_nil (a0 a2 : Option Addr) (n0 n2 c0 c2 : Nat) (i : Int) (w : World) (h0 : n0 ≤ 262144) (h2 : n2 ≤ 262144) (hi : 0 ≤ i) (hi2 : i ≤ 9223372036854775807) :
    Calls Try.prog 7 #[.slice a0 n0 c0, .slice none 0 0, .slice a2 n2 c2, .int .i64 i] w fun e w' => e = .returned (.bool true) ∧ Below w.heap.size w w' := by
  have hnn := fun wx => run_neq_slice_nil_any (P := Try.prog) wx 22 5 none 0 0 0 0 Try.underlying22
  go_enter Try.func7, Try.ntmps7
  go_wp2_with (first | (go_at_call 21; refine (bytes3_ok _ _ _ _ _ _ _ _ _ _ _ h0 (by omega) h2).mono ?_; rintro e w' ⟨rfl, rfl⟩) | (go_at_call 12; refine (zz_past none 0 0 (by omega) i (by omega) hi2 _).mono ?_; rintro e w' ⟨rfl, rfl⟩))
  go_ret
  exact ⟨rfl, Below.refl _ _⟩

/-- b is not nil, the start lies at its end or behind. -/
theorem ext_past (a0 : Option Addr) (x : Addr) (a2 : Option Addr) (n0 n1 n2 c0 c1 c2 : Nat) (bs : List Int) (i : Int) (w : World) (h0 : n0 ≤ 262144) (h1 : n1 ≤ 262144) (h2 : n2 ≤ 262144) (hi : (n1 : Int) ≤ i) (hi2 : i ≤ 9223372036854775807)
    (hz : Hid (bs.length = n1)) (hc : Hid (∀ i, i < n1 → w.cell? (x.add i) = some (.int .u8 (bs.getD i 0)))) :
    Calls Try.prog 7 #[.slice a0 n0 c0, .slice (some x) n1 c1, .slice a2 n2 c2, .int .i64 i] w fun e w' => e = .returned (.bool true) ∧ Below w.heap.size w w' := by
  have hnn := fun wx => run_neq_slice_nil_any (P := Try.prog) wx 22 5 (some x) n1 c1 0 0 Try.underlying22
  obtain ⟨i0, hi0, hz0, hz1, hz2⟩ := info_parts Try.info5
  go_enter Try.func7, Try.ntmps7
  go_wp2_with (first | (go_at_call 21; refine (bytes3_ok _ _ _ _ _ _ _ _ _ _ _ h0 h1 h2).mono ?_; rintro e w' ⟨rfl, rfl⟩) | (at_make; refine wpList_make_full _ rfl (.tmp 33) (.tmp 33) 22 rfl w.heap.size 5 i0 (.int .u8 0) 1 Try.underlying22 hi0 hz0 hz1 .i64 .i64 _ _ n1 rfl rfl (by omega) (by omega) (by rw [hz2]; omega) (by unfold maxLen; omega) (Nat.le_refl _) ?_; intro w1 hown hgrow; obtain ⟨w2, hcp, hc2, hb2, hs2⟩ := copy_made (c := c1) hown hgrow hz.out hc.out; clear hc2 hown hgrow) | (go_at_call 12; refine (zz_past _ n1 n1 (by omega) i hi hi2 _).mono ?_; rintro e w' ⟨rfl, rfl⟩))
  go_ret
  exact ⟨by simp, hb2⟩

set_option maxHeartbeats 1000000 in
theorem ext_in_end (a0 : Option Addr) (x : Addr) (a2 : Option Addr) (n0 n1 n2 c0 c1 c2 : Nat) (z0 bs z2 : List Int) (i : Nat) (w : World) (h0 : n0 ≤ 262144) (h1 : n1 ≤ 262144) (h2 : n2 ≤ 262144) (hi : i < n1)
    (hz : Hid (bs.length = n1)) (hc : Hid (∀ i, i < n1 → w.cell? (x.add i) = some (.int .u8 (bs.getD i 0)))) (r0 : Rd w a0 n0 z0) (r2 : Rd w a2 n2 z2)
    (r R : Nat) (hr : Hid (Pl.CE bs i 0 = r)) (hR : Hid (Pl.CE (z0 ++ bs ++ z2) (n0 + i) 0 = R)) (hir : i < r) (hrn : r ≤ n1) (hR1 : n0 ≤ R) (hR2 : R ≤ n0 + n1 + n2) (hres : Hid (min (R - n0) n1 = r)) (hrl : n1 ≤ r) :
    Calls Try.prog 7 #[.slice a0 n0 c0, .slice (some x) n1 c1, .slice a2 n2 c2, .int .i64 i] w fun e w' => e = .returned (.bool true) ∧ Below w.heap.size w w' := by
  have hnn := fun wx => run_neq_slice_nil_any (P := Try.prog) wx 22 5 (some x) n1 c1 0 0 Try.underlying22
  obtain ⟨i0, hi0, hz0, hz1, hz2⟩ := info_parts Try.info5
  have HW : Hid ((z0 ++ bs ++ z2).length = n0 + n1 + n2) := by have := r0.1; have := r2.1; have := hz.out; show (z0 ++ bs ++ z2).length = _; simp; omega
  by_cases hgt : (n1 : Int) < (R : Int) - (n0 : Int)
  · go_enter Try.func7, Try.ntmps7
    go_wp2_with (first | (go_at_call 21; refine (bytes3_ok _ _ _ _ _ _ _ _ _ _ _ h0 h1 h2).mono ?_; rintro e w' ⟨rfl, rfl⟩) | (at_make; refine wpList_make_full _ rfl (.tmp 33) (.tmp 33) 22 rfl w.heap.size 5 i0 (.int .u8 0) 1 Try.underlying22 hi0 hz0 hz1 .i64 .i64 _ _ n1 rfl rfl (by omega) (by omega) (by rw [hz2]; omega) (by unfold maxLen; omega) (Nat.le_refl _) ?_; intro w1 hown hgrow; obtain ⟨w2, hcp, hc2, hb2, hs2⟩ := copy_made (c := c1) hown hgrow hz.out hc.out; have HC2 := hide hc2; clear hc2 hown hgrow) | (go_at_call_of 12 (Value.int IntKind.i64 (i : Int)); refine (zz_at w.heap.size 0 n1 n1 bs hz.out (by omega) i (by omega) _ rfl r hr.out _ HC2.out).mono ?_; rintro e w' ⟨rfl, rfl⟩) | (go_at_call 20; refine (join3 _ _ _ n0 n1 n2 _ _ _ z0 bs z2 h0 h1 h2 _ (r0.below hb2) ⟨hz.out, fun _ => ⟨_, 0, rfl, HC2.out⟩⟩ (r2.below hb2)).mono ?_; rintro e w3 ⟨rfl, hc3, hb3⟩; have HC3 := hide hc3; clear hc3) | (go_at_call 12; refine (zz_at _ 0 _ _ (z0 ++ bs ++ z2) HW.out (by omega) (n0 + i) (by omega) _ (by omega) R hR.out _ HC3.out).mono ?_; rintro e w' ⟨rfl, rfl⟩))
    go_ret
    exact ⟨ret_bool (by have := hres.out; simp; omega), hb2.trans (hb3.mono hb2.size)⟩
  · go_enter Try.func7, Try.ntmps7
    go_wp2_with (first | (go_at_call 21; refine (bytes3_ok _ _ _ _ _ _ _ _ _ _ _ h0 h1 h2).mono ?_; rintro e w' ⟨rfl, rfl⟩) | (at_make; refine wpList_make_full _ rfl (.tmp 33) (.tmp 33) 22 rfl w.heap.size 5 i0 (.int .u8 0) 1 Try.underlying22 hi0 hz0 hz1 .i64 .i64 _ _ n1 rfl rfl (by omega) (by omega) (by rw [hz2]; omega) (by unfold maxLen; omega) (Nat.le_refl _) ?_; intro w1 hown hgrow; obtain ⟨w2, hcp, hc2, hb2, hs2⟩ := copy_made (c := c1) hown hgrow hz.out hc.out; have HC2 := hide hc2; clear hc2 hown hgrow) | (go_at_call_of 12 (Value.int IntKind.i64 (i : Int)); refine (zz_at w.heap.size 0 n1 n1 bs hz.out (by omega) i (by omega) _ rfl r hr.out _ HC2.out).mono ?_; rintro e w' ⟨rfl, rfl⟩) | (go_at_call 20; refine (join3 _ _ _ n0 n1 n2 _ _ _ z0 bs z2 h0 h1 h2 _ (r0.below hb2) ⟨hz.out, fun _ => ⟨_, 0, rfl, HC2.out⟩⟩ (r2.below hb2)).mono ?_; rintro e w3 ⟨rfl, hc3, hb3⟩; have HC3 := hide hc3; clear hc3) | (go_at_call 12; refine (zz_at _ 0 _ _ (z0 ++ bs ++ z2) HW.out (by omega) (n0 + i) (by omega) _ (by omega) R hR.out _ HC3.out).mono ?_; rintro e w' ⟨rfl, rfl⟩))
    go_ret
    exact ⟨ret_bool (by have := hres.out; simp; omega), hb2.trans (hb3.mono hb2.size)⟩

set_option maxHeartbeats 1000000 in
theorem ext_in_brace (a0 : Option Addr) (x : Addr) (a2 : Option Addr) (n0 n1 n2 c0 c1 c2 : Nat) (z0 bs z2 : List Int) (i : Nat) (w : World) (h0 : n0 ≤ 262144) (h1 : n1 ≤ 262144) (h2 : n2 ≤ 262144) (hi : i < n1)
    (hz : Hid (bs.length = n1)) (hc : Hid (∀ i, i < n1 → w.cell? (x.add i) = some (.int .u8 (bs.getD i 0)))) (r0 : Rd w a0 n0 z0) (r2 : Rd w a2 n2 z2)
    (r R : Nat) (hr : Hid (Pl.CE bs i 0 = r)) (hR : Hid (Pl.CE (z0 ++ bs ++ z2) (n0 + i) 0 = R)) (hir : i < r) (hrn : r ≤ n1) (hR1 : n0 ≤ R) (hR2 : R ≤ n0 + n1 + n2) (hres : Hid (min (R - n0) n1 = r)) (hrl : r < n1) (hv : Hid (bs.getD (r - 1) 0 = 125)) :
    Calls Try.prog 7 #[.slice a0 n0 c0, .slice (some x) n1 c1, .slice a2 n2 c2, .int .i64 i] w fun e w' => e = .returned (.bool true) ∧ Below w.heap.size w w' := by
  have hnn := fun wx => run_neq_slice_nil_any (P := Try.prog) wx 22 5 (some x) n1 c1 0 0 Try.underlying22
  obtain ⟨i0, hi0, hz0, hz1, hz2⟩ := info_parts Try.info5
  have HW : Hid ((z0 ++ bs ++ z2).length = n0 + n1 + n2) := by have := r0.1; have := r2.1; have := hz.out; show (z0 ++ bs ++ z2).length = _; simp; omega
  by_cases hgt : (n1 : Int) < (R : Int) - (n0 : Int)
  · go_enter Try.func7, Try.ntmps7
    go_wp2_with (first | (go_at_call 21; refine (bytes3_ok _ _ _ _ _ _ _ _ _ _ _ h0 h1 h2).mono ?_; rintro e w' ⟨rfl, rfl⟩) | (at_make; refine wpList_make_full _ rfl (.tmp 33) (.tmp 33) 22 rfl w.heap.size 5 i0 (.int .u8 0) 1 Try.underlying22 hi0 hz0 hz1 .i64 .i64 _ _ n1 rfl rfl (by omega) (by omega) (by rw [hz2]; omega) (by unfold maxLen; omega) (Nat.le_refl _) ?_; intro w1 hown hgrow; obtain ⟨w2, hcp, hc2, hb2, hs2⟩ := copy_made (c := c1) hown hgrow hz.out hc.out; have HC2 := hide hc2; have hcr := HC2.out (r - 1) (by omega); rw [hv.out, Nat.zero_add] at hcr; clear hc2 hown hgrow) | (go_at_call_of 12 (Value.int IntKind.i64 (i : Int)); refine (zz_at w.heap.size 0 n1 n1 bs hz.out (by omega) i (by omega) _ rfl r hr.out _ HC2.out).mono ?_; rintro e w' ⟨rfl, rfl⟩) | (go_at_call 20; refine (join3 _ _ _ n0 n1 n2 _ _ _ z0 bs z2 h0 h1 h2 _ (r0.below hb2) ⟨hz.out, fun _ => ⟨_, 0, rfl, HC2.out⟩⟩ (r2.below hb2)).mono ?_; rintro e w3 ⟨rfl, hc3, hb3⟩; have HC3 := hide hc3; clear hc3) | (go_at_call 12; refine (zz_at _ 0 _ _ (z0 ++ bs ++ z2) HW.out (by omega) (n0 + i) (by omega) _ (by omega) R hR.out _ HC3.out).mono ?_; rintro e w' ⟨rfl, rfl⟩))
    go_ret
    exact ⟨ret_bool (by have := hres.out; simp; omega), hb2.trans (hb3.mono hb2.size)⟩
  · go_enter Try.func7, Try.ntmps7
    go_wp2_with (first | (go_at_call 21; refine (bytes3_ok _ _ _ _ _ _ _ _ _ _ _ h0 h1 h2).mono ?_; rintro e w' ⟨rfl, rfl⟩) | (at_make; refine wpList_make_full _ rfl (.tmp 33) (.tmp 33) 22 rfl w.heap.size 5 i0 (.int .u8 0) 1 Try.underlying22 hi0 hz0 hz1 .i64 .i64 _ _ n1 rfl rfl (by omega) (by omega) (by rw [hz2]; omega) (by unfold maxLen; omega) (Nat.le_refl _) ?_; intro w1 hown hgrow; obtain ⟨w2, hcp, hc2, hb2, hs2⟩ := copy_made (c := c1) hown hgrow hz.out hc.out; have HC2 := hide hc2; have hcr := HC2.out (r - 1) (by omega); rw [hv.out, Nat.zero_add] at hcr; clear hc2 hown hgrow) | (go_at_call_of 12 (Value.int IntKind.i64 (i : Int)); refine (zz_at w.heap.size 0 n1 n1 bs hz.out (by omega) i (by omega) _ rfl r hr.out _ HC2.out).mono ?_; rintro e w' ⟨rfl, rfl⟩) | (go_at_call 20; refine (join3 _ _ _ n0 n1 n2 _ _ _ z0 bs z2 h0 h1 h2 _ (r0.below hb2) ⟨hz.out, fun _ => ⟨_, 0, rfl, HC2.out⟩⟩ (r2.below hb2)).mono ?_; rintro e w3 ⟨rfl, hc3, hb3⟩; have HC3 := hide hc3; clear hc3) | (go_at_call 12; refine (zz_at _ 0 _ _ (z0 ++ bs ++ z2) HW.out (by omega) (n0 + i) (by omega) _ (by omega) R hR.out _ HC3.out).mono ?_; rintro e w' ⟨rfl, rfl⟩))
    go_ret
    exact ⟨ret_bool (by have := hres.out; simp; omega), hb2.trans (hb3.mono hb2.size)⟩

set_option maxHeartbeats 1000000 in
theorem ext_in_square (a0 : Option Addr) (x : Addr) (a2 : Option Addr) (n0 n1 n2 c0 c1 c2 : Nat) (z0 bs z2 : List Int) (i : Nat) (w : World) (h0 : n0 ≤ 262144) (h1 : n1 ≤ 262144) (h2 : n2 ≤ 262144) (hi : i < n1)
    (hz : Hid (bs.length = n1)) (hc : Hid (∀ i, i < n1 → w.cell? (x.add i) = some (.int .u8 (bs.getD i 0)))) (r0 : Rd w a0 n0 z0) (r2 : Rd w a2 n2 z2)
    (r R : Nat) (hr : Hid (Pl.CE bs i 0 = r)) (hR : Hid (Pl.CE (z0 ++ bs ++ z2) (n0 + i) 0 = R)) (hir : i < r) (hrn : r ≤ n1) (hR1 : n0 ≤ R) (hR2 : R ≤ n0 + n1 + n2) (hres : Hid (min (R - n0) n1 = r)) (hrl : r < n1) (hv : Hid (bs.getD (r - 1) 0 = 93)) :
    Calls Try.prog 7 #[.slice a0 n0 c0, .slice (some x) n1 c1, .slice a2 n2 c2, .int .i64 i] w fun e w' => e = .returned (.bool true) ∧ Below w.heap.size w w' := by
  have hnn := fun wx => run_neq_slice_nil_any (P := Try.prog) wx 22 5 (some x) n1 c1 0 0 Try.underlying22
  obtain ⟨i0, hi0, hz0, hz1, hz2⟩ := info_parts Try.info5
  have HW : Hid ((z0 ++ bs ++ z2).length = n0 + n1 + n2) := by have := r0.1; have := r2.1; have := hz.out; show (z0 ++ bs ++ z2).length = _; simp; omega
  by_cases hgt : (n1 : Int) < (R : Int) - (n0 : Int)
  · go_enter Try.func7, Try.ntmps7
    go_wp2_with (first | (go_at_call 21; refine (bytes3_ok _ _ _ _ _ _ _ _ _ _ _ h0 h1 h2).mono ?_; rintro e w' ⟨rfl, rfl⟩) | (at_make; refine wpList_make_full _ rfl (.tmp 33) (.tmp 33) 22 rfl w.heap.size 5 i0 (.int .u8 0) 1 Try.underlying22 hi0 hz0 hz1 .i64 .i64 _ _ n1 rfl rfl (by omega) (by omega) (by rw [hz2]; omega) (by unfold maxLen; omega) (Nat.le_refl _) ?_; intro w1 hown hgrow; obtain ⟨w2, hcp, hc2, hb2, hs2⟩ := copy_made (c := c1) hown hgrow hz.out hc.out; have HC2 := hide hc2; have hcr := HC2.out (r - 1) (by omega); rw [hv.out, Nat.zero_add] at hcr; clear hc2 hown hgrow) | (go_at_call_of 12 (Value.int IntKind.i64 (i : Int)); refine (zz_at w.heap.size 0 n1 n1 bs hz.out (by omega) i (by omega) _ rfl r hr.out _ HC2.out).mono ?_; rintro e w' ⟨rfl, rfl⟩) | (go_at_call 20; refine (join3 _ _ _ n0 n1 n2 _ _ _ z0 bs z2 h0 h1 h2 _ (r0.below hb2) ⟨hz.out, fun _ => ⟨_, 0, rfl, HC2.out⟩⟩ (r2.below hb2)).mono ?_; rintro e w3 ⟨rfl, hc3, hb3⟩; have HC3 := hide hc3; clear hc3) | (go_at_call 12; refine (zz_at _ 0 _ _ (z0 ++ bs ++ z2) HW.out (by omega) (n0 + i) (by omega) _ (by omega) R hR.out _ HC3.out).mono ?_; rintro e w' ⟨rfl, rfl⟩))
    go_ret
    exact ⟨ret_bool (by have := hres.out; simp; omega), hb2.trans (hb3.mono hb2.size)⟩
  · go_enter Try.func7, Try.ntmps7
    go_wp2_with (first | (go_at_call 21; refine (bytes3_ok _ _ _ _ _ _ _ _ _ _ _ h0 h1 h2).mono ?_; rintro e w' ⟨rfl, rfl⟩) | (at_make; refine wpList_make_full _ rfl (.tmp 33) (.tmp 33) 22 rfl w.heap.size 5 i0 (.int .u8 0) 1 Try.underlying22 hi0 hz0 hz1 .i64 .i64 _ _ n1 rfl rfl (by omega) (by omega) (by rw [hz2]; omega) (by unfold maxLen; omega) (Nat.le_refl _) ?_; intro w1 hown hgrow; obtain ⟨w2, hcp, hc2, hb2, hs2⟩ := copy_made (c := c1) hown hgrow hz.out hc.out; have HC2 := hide hc2; have hcr := HC2.out (r - 1) (by omega); rw [hv.out, Nat.zero_add] at hcr; clear hc2 hown hgrow) | (go_at_call_of 12 (Value.int IntKind.i64 (i : Int)); refine (zz_at w.heap.size 0 n1 n1 bs hz.out (by omega) i (by omega) _ rfl r hr.out _ HC2.out).mono ?_; rintro e w' ⟨rfl, rfl⟩) | (go_at_call 20; refine (join3 _ _ _ n0 n1 n2 _ _ _ z0 bs z2 h0 h1 h2 _ (r0.below hb2) ⟨hz.out, fun _ => ⟨_, 0, rfl, HC2.out⟩⟩ (r2.below hb2)).mono ?_; rintro e w3 ⟨rfl, hc3, hb3⟩; have HC3 := hide hc3; clear hc3) | (go_at_call 12; refine (zz_at _ 0 _ _ (z0 ++ bs ++ z2) HW.out (by omega) (n0 + i) (by omega) _ (by omega) R hR.out _ HC3.out).mono ?_; rintro e w' ⟨rfl, rfl⟩))
    go_ret
    exact ⟨ret_bool (by have := hres.out; simp; omega), hb2.trans (hb3.mono hb2.size)⟩

theorem ext_walk (a0 : Option Addr) (len0 cap0 : Nat) (z0 : List Int) (a1 : Option Addr) (len1 cap1 : Nat) (z1 : List Int) (a2 : Option Addr) (len2 cap2 : Nat) (z2 : List Int) (a3 : Int) (w : World) (w0 : IsRow .u8 w a0 len0 cap0 z0) (w1 : IsRow .u8 w a1 len1 cap1 z1) (w2 : IsRow .u8 w a2 len2 cap2 z2) (w3 : (Lit.int .i64 a3).wf = true) :
    Calls Try.prog 7 #[.slice a0 len0 cap0, .slice a1 len1 cap1, .slice a2 len2 cap2, .int .i64 a3] w fun e w' => e = .returned (.bool true) ∧ Below w.heap.size w w' := by
  obtain ⟨b1, b2⟩ := wf_i64 w3
  by_cases hl : len0 ≤ 262144 ∧ len1 ≤ 262144 ∧ len2 ≤ 262144
  · obtain ⟨h0, h1, h2⟩ := hl
    by_cases hi : 0 ≤ a3
    · rcases w1 with ⟨rfl, rfl, rfl, rfl⟩ | ⟨x, rfl, hlc, hcm, hz, hcell, hwf⟩
      · exact ext_nil a0 a2 len0 len2 cap0 cap2 a3 w h0 h2 hi b2
      · have HC : Hid (∀ i, i < len1 → w.cell? (x.add i) = some (.int .u8 ((z1.take len1).getD i 0))) := by
          intro i hi
          rw [hcell i (by omega)]
          simp [List.getD, hi]
        have HZ : Hid ((z1.take len1).length = len1) := by show (z1.take len1).length = len1; simp; omega
        by_cases hp : (len1 : Int) ≤ a3
        · exact ext_past a0 x a2 len0 len1 len2 cap0 cap1 cap2 _ a3 w h0 h1 h2 hp b2 HZ HC
        · obtain ⟨i, rfl⟩ := Int.eq_ofNat_of_zero_le hi
          have r0 := Rd.of_row w0
          have r2 := Rd.of_row w2
          generalize z1.take len1 = bs at *
          generalize z0.take len0 = zs0 at *
          generalize z2.take len2 = zs2 at *
          have hil : i < len1 := by omega
          have q1 := CE_lt bs i 0 (by rw [HZ.out]; exact hil)
          have q2 := CE_le bs i 0 (by rw [HZ.out]; omega)
          have q3 := CE_ext zs0 bs zs2 i 0 (by rw [HZ.out]; omega)
          have q4 := CE_last bs i 0 (by rw [HZ.out]; exact hil)
          rw [r0.1, r2.1, HZ.out] at q3
          rw [HZ.out] at q2 q4
          by_cases hr : Pl.CE bs i 0 < len1
          · rcases q4 hr with hv | hv
            · exact ext_in_brace a0 x a2 len0 len1 len2 cap0 cap1 cap2 zs0 bs zs2 i w h0 h1 h2 hil HZ HC r0 r2 _ _ (hide rfl) (hide rfl) q1 q2.2 q3.1 q3.2.1 q3.2.2 hr hv
            · exact ext_in_square a0 x a2 len0 len1 len2 cap0 cap1 cap2 zs0 bs zs2 i w h0 h1 h2 hil HZ HC r0 r2 _ _ (hide rfl) (hide rfl) q1 q2.2 q3.1 q3.2.1 q3.2.2 hr hv
          · exact ext_in_end a0 x a2 len0 len1 len2 cap0 cap1 cap2 zs0 bs zs2 i w h0 h1 h2 hil HZ HC r0 r2 _ _ (hide rfl) (hide rfl) q1 q2.2 q3.1 q3.2.1 q3.2.2 (by omega)
    · exact ext_neg a0 a1 a2 len0 len1 len2 cap0 cap1 cap2 a3 w h0 h1 h2 (by omega)
  · exact ext_long a0 a1 a2 len0 len1 len2 cap0 cap1 cap2 a3 w hl
end Go.Proofs.Qxb6618264a
