/-
  WALKS of seat b6618264a: the model lwContainerEnd.
-/
import Derived.Test.Qxb6618264aWalkA
namespace Go.Proofs.Qxb6618264a
open Go.RowKit
set_option linter.unusedVariables false

theorem Try.info4 : (Try.prog.info? 4).map (fun i => (i.zero, i.size, i.bytes)) = some (some (.bool false), 1, 1) := by kernel_rfl

theorem lw_past (a : Option Addr) (n c : Nat) (hn : n ≤ 1048576) (i : Int) (hi : (n : Int) ≤ i) (hi2 : i ≤ 9223372036854775807) (w : World) :
    Calls Try.prog 13 #[.slice a n c, .int .i64 i] w fun e w' => e = .returned (.int .i64 (n : Int)) ∧ w = w' := by
  go_enter Try.func13, Try.ntmps13
  go_wp2
  go_ret
  exact ⟨rfl, rfl⟩

/-- THE FIRST PASS, behind k rounds: the marks L of the first k bytes lie in the new row; the rest of it is unmarked. -/
def Inv1 (w : World) (xs : List Int) (m : Nat) (Q E : Bool) (k : Nat) (wr : World) : Prop :=
  (Q = false → E = false) ∧ ∃ L : List Bool, L.length = k ∧ Pl.mk false false xs = L ++ Pl.mk Q E (xs.drop k) ∧
    wr.ownsRow w.heap.size 4 1 (.slice (some ⟨w.heap.size, 0, none⟩) m m) m ((L ++ List.replicate (m - k) false).map Value.bool) ∧ Below w.heap.size w wr

theorem rep_set (L : List Bool) (k m : Nat) (hk : k < m) (hL : L.length = k) :
    ((L ++ List.replicate (m - k) false).map Value.bool).set k (Value.bool true) = ((L ++ [true]) ++ List.replicate (m - (k + 1)) false).map Value.bool := by
  have e : m - k = (m - (k + 1)) + 1 := by omega
  rw [e, List.replicate_succ, ← List.map_set, List.set_append_right _ _ (by omega), hL, Nat.sub_self, List.set_cons_zero, List.append_assoc]
  rfl
theorem rep_same (L : List Bool) (k m : Nat) (hk : k < m) :
    L ++ List.replicate (m - k) false = (L ++ [false]) ++ List.replicate (m - (k + 1)) false := by
  have e : m - k = (m - (k + 1)) + 1 := by omega
  rw [e, List.replicate_succ, List.append_assoc]
  rfl

theorem Inv1.start {w w1 : World} {xs : List Int} {m : Nat} (h : w1.ownsRow w.heap.size 4 1 (.slice (some ⟨w.heap.size, 0, none⟩) m m) m (madeCells (Value.bool false).cells (m * 1)).toList) (hg : w.grownBy w1 none) : Inv1 w xs m false false 0 w1 := by
  refine ⟨fun _ => rfl, [], rfl, by simp, ?_, (Below.refl _ _).grown hg (Nat.le_refl _) (fun k e => by cases e)⟩
  have e : (madeCells (Value.bool false).cells (m * 1)).toList = (([] : List Bool) ++ List.replicate (m - 0) false).map Value.bool := by
    have := toList_madeCells_one (Value.bool false) (m * 1)
    simpa [Value.cells] using this
  rw [← e]
  exact h

theorem Inv1.mark {w wr : World} {xs : List Int} {m k : Nat} {Q E : Bool} (h : Inv1 w xs m Q E k wr) (hk : k < m) (hm : xs.length = m) (c : Int) (hx : xs.getD k 0 = c) (hq : Q = true ∨ c = 34) {Q' E' : Bool} (h1 : Pl.nq Q E c = Q') (h2 : Pl.ne Q E c = E') (h3 : Q' = false → E' = false) :
    Inv1 w xs m Q' E' (k + 1) (wr.setCell ⟨w.heap.size, k, none⟩ (.bool true)) := by
  obtain ⟨h0, L, hL, hmk, hown, hb⟩ := h
  refine ⟨h3, L ++ [true], by simp [hL], ?_, ?_, hb.setCell (Nat.le_refl _) _⟩
  · rw [hmk, Pl.drop_cons xs k (by omega), hx]
    simp only [Pl.mk, h1, h2, List.append_assoc, List.cons_append, List.nil_append]
    congr 2
    rcases hq with hq | hq <;> simp [hq]
  · rw [← rep_set L k m hk hL]
    exact (hown.stored k _).1

theorem Inv1.pass {w wr : World} {xs : List Int} {m k : Nat} {E : Bool} (h : Inv1 w xs m false E k wr) (hk : k < m) (hm : xs.length = m) (hq : xs.getD k 0 ≠ 34) :
    Inv1 w xs m false false (k + 1) wr := by
  obtain ⟨h0, L, hL, hmk, hown, hb⟩ := h
  refine ⟨fun _ => rfl, L ++ [false], by simp [hL], ?_, by rw [← rep_same L k m hk]; exact hown, hb⟩
  rw [hmk, Pl.drop_cons xs k (by omega)]
  have e1 : Pl.nq false E (xs.getD k 0) = false := by simp only [Pl.nq]; simpa using hq
  have e2 : Pl.ne false E (xs.getD k 0) = false := by simp [Pl.ne]
  simp only [Pl.mk, e1, e2, List.append_assoc, List.cons_append, List.nil_append]
  congr 2

theorem Inv1.cell {w wr : World} {xs : List Int} {m k : Nat} {Q E : Bool} (h : Inv1 w xs m Q E k wr) (hk : k < m) : wr.cell? ⟨w.heap.size, k, none⟩ = some (.bool false) ∧ wr.frozen? ⟨w.heap.size, k, none⟩ = false := by
  obtain ⟨h0, L, hL, hmk, hown, hb⟩ := h
  refine ⟨?_, hown.frozenAt k⟩
  rw [hown.cellAt k (by omega)]
  subst hL
  simp only [List.map_append, List.map_replicate]
  rw [List.getElem?_append_right (by simp), List.getElem?_replicate, if_pos (by simp; omega)]

theorem Inv1.below {w wr : World} {xs : List Int} {m k : Nat} {Q E : Bool} (h : Inv1 w xs m Q E k wr) : Below w.heap.size w wr := by
  obtain ⟨h0, L, hL, hmk, hown, hb⟩ := h
  exact hb

/-- THE FIRST PASS's END: the row holds the marks. -/
theorem Inv1.fin {w wr : World} {xs : List Int} {m : Nat} {Q E : Bool} (h : Inv1 w xs m Q E m wr) (hm : xs.length = m) : ∀ k, k < m → wr.cell? ⟨w.heap.size, k, none⟩ = some (.bool ((Pl.mk false false xs).getD k false)) := by
  obtain ⟨h0, L, hL, hmk, hown, hb⟩ := h
  intro k hk
  rw [hown.cellAt k (by omega)]
  have e : Pl.mk false false xs = L := by rw [hmk, List.drop_of_length_le (by omega)]; simp [Pl.mk]
  rw [e]
  simp [hL, hk]

theorem is_of' {bs : List Int} {k : Nat} {v : Int} (h : bs[k]?.getD 0 = v) : bs.getD k 0 = v := by simpa [List.getD] using h
theorem or_of {bs : List Int} {k : Nat} {u v : Int} (h : (bs[k]?.getD 0 == u) = true ∨ (bs[k]?.getD 0 == v) = true) : bs.getD k 0 = u ∨ bs.getD k 0 = v := by
  rcases h with h | h
  · exact Or.inl (is_of h)
  · exact Or.inr (is_of h)

set_option maxHeartbeats 1000000 in
theorem lw_pos (g off n c : Nat) (bs : List Int) (hl : bs.length = n) (hn : n ≤ 1048576) (i : Nat) (hi : i < n) (w : World)
    (hc : ∀ k, k < n → w.cell? ⟨g, off + k, none⟩ = some (.int .u8 (bs.getD k 0))) :
    Calls Try.prog 13 #[.slice (some ⟨g, off, none⟩) n c, .int .i64 i] w fun e w' => e = .returned (.int .i64 (Pl.CE bs i 0 : Nat)) ∧ Below w.heap.size w w' := by
  obtain ⟨i0, hi0, hz0, hz1, hz2⟩ := info_parts Try.info4
  have HL : Hid (bs.length = n) := hl
  have HC := hide hc
  clear hl hc
  go_enter Try.func13, Try.ntmps13
  go_wp2_with (at_make; refine wpList_make_full _ rfl (.tmp 24) (.tmp 24) 32 rfl w.heap.size 4 i0 (.bool false) 1 Try.underlying32 hi0 hz0 hz1 .i64 .i64 _ _ (n - i) rfl rfl (by omega) (by omega) (by rw [hz2]; omega) (by unfold maxLen; omega) (Nat.le_refl _) ?_; intro w1 hown hgrow)
  have HX : Hid ((bs.drop i).length = n - i) := by have := HL.out; show (bs.drop i).length = n - i; simp [this]
  have HI := Inv1.start (xs := bs.drop i) hown hgrow
  have hgB : g < w.heap.size := World.block_lt_of_cell? w _ (HC.out 0 (by omega))
  have HX0 : Hid (∀ k, k < n - i → w.cell? ⟨g, off + (i + k), none⟩ = some (.int .u8 ((bs.drop i).getD k 0))) := by
    intro k hk
    rw [HC.out (i + k) (by omega)]
    simp [List.getD]
  have HE : Hid (Pl.CE bs i 0 = i + Pl.C2 (bs.drop i) (Pl.mk false false (bs.drop i)) 0 0) := by
    show Pl.CE bs i 0 = _
    unfold Pl.CE Pl.C2
    rw [List.drop_zero, List.drop_zero, Pl.c2_mk]; omega
  generalize bs.drop i = xs at *
  clear hown hgrow
  go_loopw [7, 8, 9] (fun q e j wr => ∃ (Q E : Bool) (k : Nat), k ≤ n - i ∧ q = .bool Q ∧ e = .bool E ∧ j = .int .i64 k ∧ Inv1 w xs (n - i) Q E k wr) (fun _ _ j _ => n - i - (intOf j).toNat)
  case atStart => exact ⟨false, false, 0, by omega, rfl, rfl, rfl, HI⟩
  case round =>
    obtain ⟨Q, E, k, hk, rfl, rfl, rfl, hI⟩ := hrel
    by_cases hlt : k < n - i
    · obtain ⟨hcl, hfz⟩ := hI.cell hlt
      have hcell : wr.cell? ⟨g, off + (i + k), none⟩ = some (.int .u8 (xs.getD k 0)) := (hI.below.cell (by exact hgB)).trans (HX0.out k hlt)
      have HH := hide hI
      clear hI
      cases Q
      · have hE : E = false := HH.out.1 rfl
        subst hE
        go_wp2
        · have t1 : (xs[k]?.getD 0 == 34) = true := by assumption
          go_roundw
          case rel => exact ⟨true, false, k + 1, by omega, rfl, rfl, by go_num, HH.out.mark hlt HX.out 34 (is_of t1) (Or.inr rfl) (by simp [Pl.nq]) (by simp [Pl.ne]) (by simp)⟩
          case measure => simp [intOf]; omega
        · have t1 : (xs[k]?.getD 0 == 34) = false := by assumption
          go_roundw
          case rel => exact ⟨false, false, k + 1, by omega, rfl, rfl, by go_num, HH.out.pass hlt HX.out (isnt_of t1)⟩
          case measure => simp [intOf]; omega
      · cases E
        · go_wp2
          · have t1 : (xs[k]?.getD 0 == 92) = true := by assumption
            go_roundw
            case rel => exact ⟨true, true, k + 1, by omega, rfl, rfl, by go_num, HH.out.mark hlt HX.out 92 (is_of t1) (Or.inl rfl) (by simp [Pl.nq]) (by simp [Pl.ne]) (by simp)⟩
            case measure => simp [intOf]; omega
          · have t1 : (xs[k]?.getD 0 == 34) = true := by assumption
            go_roundw
            case rel => exact ⟨false, false, k + 1, by omega, rfl, rfl, by go_num, HH.out.mark hlt HX.out 34 (is_of t1) (Or.inl rfl) (by simp [Pl.nq]) (by simp [Pl.ne]) (by simp)⟩
            case measure => simp [intOf]; omega
          · have t1 : (xs[k]?.getD 0 == 92) = false := by assumption
            have t2 : (xs[k]?.getD 0 == 34) = false := by assumption
            go_roundw
            case rel => exact ⟨true, false, k + 1, by omega, rfl, rfl, by go_num, HH.out.mark hlt HX.out (xs.getD k 0) rfl (Or.inl rfl) (by simp only [Pl.nq, if_neg (isnt_of t1), if_neg (isnt_of t2)]; simp) (by simp only [Pl.ne, if_neg (isnt_of t1)]; simp) (by simp)⟩
            case measure => simp [intOf]; omega
        · go_wp2
          go_roundw
          case rel => exact ⟨true, false, k + 1, by omega, rfl, rfl, by go_num, HH.out.mark hlt HX.out (xs.getD k 0) rfl (Or.inl rfl) (by simp [Pl.nq]) (by simp [Pl.ne]) (by simp)⟩
          case measure => simp [intOf]; omega
    · have hkm : k = n - i := by omega
      subst hkm
      have HM := hide (hI.fin HX.out)
      have HXr : Hid (∀ k, k < n - i → wr.cell? ⟨g, off + (i + k), none⟩ = some (.int .u8 (xs.getD k 0))) := fun k hk => (hI.below.cell (by exact hgB)).trans (HX0.out k hk)
      have hlm : Hid ((Pl.mk false false xs).length = xs.length) := Pl.length_mk xs _ _
      have hbel := hI.below
      generalize Pl.mk false false xs = ms at *
      clear hI HI
      go_wp2
      go_loop [11, 12] (fun dd j => ∃ (d : Int) (k : Nat), k ≤ n - i ∧ -(k : Int) ≤ d ∧ d ≤ k ∧ dd = .int .i64 d ∧ j = .int .i64 k ∧ Hid (Pl.C2 xs ms k d = Pl.C2 xs ms 0 0)) (fun _ j => n - i - (intOf j).toNat)
      case atStart => exact ⟨0, 0, by omega, by omega, by omega, rfl, rfl, rfl⟩
      case round =>
        obtain ⟨d, k, hk, hd1, hd2, rfl, rfl, hS⟩ := hrel
        by_cases hlt : k < n - i
        · have hcell := HXr.out k hlt
          have hmark := HM.out k hlt
          cases hmk : ms.getD k false
          · rw [hmk] at hmark
            have Hmk := hide hmk
            clear hmk
            go_wp2
            · have t1 : xs[k]?.getD 0 = 123 := by assumption
              go_round
              case rel => exact ⟨d + 1, k + 1, by omega, by omega, by omega, rfl, by go_num, by rw [← hS.out]; exact (Pl.C2_open xs ms k d hlm.out (by rw [HX.out]; exact hlt) Hmk.out (Or.inl (is_of' t1))).symm⟩
              case measure => simp [intOf]; omega
            · have t1 : (xs[k]?.getD 0 == 123) = true ∨ (xs[k]?.getD 0 == 91) = true := by assumption
              go_round
              case rel => exact ⟨d + 1, k + 1, by omega, by omega, by omega, rfl, by go_num, by rw [← hS.out]; exact (Pl.C2_open xs ms k d hlm.out (by rw [HX.out]; exact hlt) Hmk.out (or_of t1)).symm⟩
              case measure => simp [intOf]; omega
            · have t1 : xs[k]?.getD 0 = 125 := by assumption
              have t2 : (d - 1 == 0) = true := by assumption
              go_ret
              exact ⟨ret_int (by rw [HE.out, ← hS.out, Pl.C2_done xs ms k d hlm.out (by rw [HX.out]; exact hlt) Hmk.out (Or.inl (is_of' t1)) (of_beq t2)]; omega), hbel⟩
            · have t1 : xs[k]?.getD 0 = 125 := by assumption
              have t2 : (d - 1 == 0) = false := by assumption
              go_round
              case rel => exact ⟨d - 1, k + 1, by omega, by omega, by omega, rfl, by go_num, by rw [← hS.out]; exact (Pl.C2_close xs ms k d hlm.out (by rw [HX.out]; exact hlt) Hmk.out (Or.inl (is_of' t1)) (of_nbeq t2)).symm⟩
              case measure => simp [intOf]; omega
            · have t1 : (xs[k]?.getD 0 == 125) = true ∨ (xs[k]?.getD 0 == 93) = true := by assumption
              have t2 : (d - 1 == 0) = true := by assumption
              go_ret
              exact ⟨ret_int (by rw [HE.out, ← hS.out, Pl.C2_done xs ms k d hlm.out (by rw [HX.out]; exact hlt) Hmk.out (or_of t1) (of_beq t2)]; omega), hbel⟩
            · have t1 : (xs[k]?.getD 0 == 125) = true ∨ (xs[k]?.getD 0 == 93) = true := by assumption
              have t2 : (d - 1 == 0) = false := by assumption
              go_round
              case rel => exact ⟨d - 1, k + 1, by omega, by omega, by omega, rfl, by go_num, by rw [← hS.out]; exact (Pl.C2_close xs ms k d hlm.out (by rw [HX.out]; exact hlt) Hmk.out (or_of t1) (of_nbeq t2)).symm⟩
              case measure => simp [intOf]; omega
            · have t1 : (xs[k]?.getD 0 == 123) = false ∧ (xs[k]?.getD 0 == 91) = false := by assumption
              have t2 : (xs[k]?.getD 0 == 125) = false ∧ (xs[k]?.getD 0 == 93) = false := by assumption
              go_round
              case rel => exact ⟨d, k + 1, by omega, by omega, by omega, rfl, by go_num, by rw [← hS.out]; exact (Pl.C2_other xs ms k d hlm.out (by rw [HX.out]; exact hlt) Hmk.out (neither_of t1.1 t1.2) (neither_of t2.1 t2.2)).symm⟩
              case measure => simp [intOf]; omega
          · rw [hmk] at hmark
            have Hmk := hide hmk
            clear hmk
            go_wp2
            go_round
            case rel => exact ⟨d, k + 1, by omega, by omega, by omega, rfl, by go_num, by rw [← hS.out]; exact (Pl.C2_in xs ms k d hlm.out (by rw [HX.out]; exact hlt) Hmk.out).symm⟩
            case measure => simp [intOf]; omega
        · go_wp2
          go_ret
          exact ⟨ret_int (by rw [HE.out, ← hS.out, show k = xs.length by rw [HX.out]; omega, Pl.C2_end, HX.out]; omega), hbel⟩
end Go.Proofs.Qxb6618264a
