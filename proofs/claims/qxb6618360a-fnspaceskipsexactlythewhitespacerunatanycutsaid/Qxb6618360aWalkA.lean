/-
  WALKS of seat b6618360a: isSpace, zzWS, space, ZZSpace.
-/
import Derived.Test.Qxb6618360aChecked
import Derived.Test.Qxb6618360aPlain
import Derived.WalkKit
import Derived.WalkSpells
import Derived.Deep.QuietTactic
import Derived.BigQuiet
namespace Go.Proofs.Qxb6618360a
open Go.RowKit
set_option linter.unusedVariables false

theorem hide {p : Prop} (h : p) : Hid p := h
theorem ret_int {k : IntKind} {a b : Int} (h : a = b) : Ending.returned (.int k a) = .returned (.int k b) := by rw [h]
theorem ret_bool {a b : Bool} (h : a = b) : Ending.returned (.bool a) = .returned (.bool b) := by rw [h]

theorem isSpace_any (c : Int) (w : World) : Calls Try.prog 8 #[.int .u8 c] w fun e w' => e = .returned (.bool (Pl.ws c)) ∧ w' = w := by
  by_cases h1 : c = 32
  · subst h1
    go_enter Try.func8, Try.ntmps8
    go_wp2
    go_ret
    exact ⟨ret_bool (by decide), rfl⟩
  · skip
    by_cases h2 : c = 9
    · subst h2
      go_enter Try.func8, Try.ntmps8
      go_wp2
      go_ret
      exact ⟨ret_bool (by decide), rfl⟩
    · skip
      by_cases h3 : c = 13
      · subst h3
        go_enter Try.func8, Try.ntmps8
        go_wp2
        go_ret
        exact ⟨ret_bool (by decide), rfl⟩
      · have e1 : (c == 32) = false := beq_eq_false_iff_ne.2 h1
        have e2 : (c == 9) = false := beq_eq_false_iff_ne.2 h2
        have e3 : (c == 13) = false := beq_eq_false_iff_ne.2 h3
        go_enter Try.func8, Try.ntmps8
        go_wp2
        go_ret
        exact ⟨ret_bool (by simp [Pl.ws, h1, h2, h3]; rfl), rfl⟩

theorem zzWS_any (c : Int) (w : World) : Calls Try.prog 6 #[.int .u8 c] w fun e w' => e = .returned (.bool (Pl.ws c)) ∧ w = w' := by
  by_cases h1 : c = 32
  · subst h1
    go_enter Try.func6, Try.ntmps6
    go_wp2
    go_ret
    exact ⟨ret_bool (by decide), rfl⟩
  · skip
    by_cases h2 : c = 9
    · subst h2
      go_enter Try.func6, Try.ntmps6
      go_wp2
      go_ret
      exact ⟨ret_bool (by decide), rfl⟩
    · skip
      by_cases h3 : c = 10
      · subst h3
        go_enter Try.func6, Try.ntmps6
        go_wp2
        go_ret
        exact ⟨ret_bool (by decide), rfl⟩
      · have e1 : (c == 32) = false := beq_eq_false_iff_ne.2 h1
        have e2 : (c == 9) = false := beq_eq_false_iff_ne.2 h2
        have e3 : (c == 10) = false := beq_eq_false_iff_ne.2 h3
        go_enter Try.func6, Try.ntmps6
        go_wp2
        go_ret
        exact ⟨ret_bool (by simp [Pl.ws, h1, h2, h3]; rfl), rfl⟩

/-- A slice of bytes that can be read: its n elements are zs. -/
def Rd (w : World) (a : Option Addr) (n : Nat) (zs : List Int) : Prop :=
  zs.length = n ∧ (0 < n → ∃ g off, a = some ⟨g, off, none⟩ ∧ ∀ k, k < n → w.cell? ⟨g, off + k, none⟩ = some (.int .u8 (zs.getD k 0)))

theorem Rd.below {w w' : World} {a : Option Addr} {n : Nat} {zs : List Int} (h : Rd w a n zs) (hb : Below w.heap.size w w') : Rd w' a n zs := by
  refine ⟨h.1, fun h0 => ?_⟩
  obtain ⟨g, off, rfl, hc⟩ := h.2 h0
  refine ⟨g, off, rfl, fun k hk => ?_⟩
  have hg : g < w.heap.size := World.block_lt_of_cell? w _ (hc k hk)
  rw [hb.cell (by exact hg)]
  exact hc k hk

/-- The scanner in its box. -/
def Box (w : World) (X : Nat) (a : Option Addr) (n c : Nat) (i d : Int) (sp : Bool) : Prop :=
  w.heap[X]? = some (.cells #[.slice a n c, .int .i64 i, .int .i64 d, .bool sp] 29 (0, 0))
theorem Box.cells {w : World} {X : Nat} {a : Option Addr} {n c : Nat} {i d : Int} {sp : Bool} (h : Box w X a n c i d sp) :
    w.cell? ⟨X, 0, none⟩ = some (.slice a n c) ∧ w.cell? ⟨X, 1, none⟩ = some (.int .i64 i) ∧ w.cell? ⟨X, 2, none⟩ = some (.int .i64 d) ∧ w.cell? ⟨X, 3, none⟩ = some (.bool sp) := by
  refine ⟨?_, ?_, ?_, ?_⟩ <;> (rw [cell_of_row w X _ _ 29 (0, 0) h]; rfl)
theorem Box.frozen {w : World} {X : Nat} {a : Option Addr} {n c : Nat} {i d : Int} {sp : Bool} (h : Box w X a n c i d sp) (j : Nat) : w.frozen? ⟨X, j, none⟩ = false := frozen_of_row w X j _ 29 h
theorem Box.seti {w : World} {X : Nat} {a : Option Addr} {n c : Nat} {i d : Int} {sp : Bool} (h : Box w X a n c i d sp) (v : Int) : Box (w.setCell ⟨X, 1, none⟩ (.int .i64 v)) X a n c v d sp := by
  unfold Box
  rw [heap_setCell_same w X 1 _ 29 _ h]
  rfl
theorem Box.setsp {w : World} {X : Nat} {a : Option Addr} {n c : Nat} {i d : Int} {sp : Bool} (h : Box w X a n c i d sp) (v : Bool) : Box (w.setCell ⟨X, 3, none⟩ (.bool v)) X a n c i d v := by
  unfold Box
  rw [heap_setCell_same w X 3 _ 29 _ h]
  rfl
theorem Box.drew {w : World} {X : Nat} {a : Option Addr} {n c : Nat} {i d : Int} {sp : Bool} (h : Box w X a n c i d sp) (m : Nat) : Box (w.drewN m) X a n c i d sp := h
theorem drewN_below (B : Nat) (w : World) (n : Nat) : Below B w (w.drewN n) := ⟨rfl, rfl, rfl, Nat.le_refl _, fun _ _ => rfl⟩

set_option maxHeartbeats 1000000 in
theorem space_any (X : Nat) (a : Option Addr) (n c : Nat) (bs : List Int) (i : Nat) (d : Int) (sp : Bool) (hn : n ≤ 1048576) (hi2 : i ≤ 9223372036854775807) (w : World)
    (hX : Box w X a n c i d sp) (hl : bs.length = n) (hr : ∀ w', Below X w w' → Rd w' a n bs) :
    Calls Try.prog 7 #[.pointer (some ⟨X, 0, none⟩)] w fun e w' => e = .returned (.tuple #[]) ∧ Box w' X a n c (Pl.SP bs i : Nat) d (sp || decide (i < Pl.SP bs i)) ∧ Below X w w' := by
  have HR := hide hr
  have HL := hide hl
  obtain ⟨c0, c1, c2, c3⟩ := hX.cells
  have HX := hide hX
  clear hr hl hX
  go_enter Try.func7, Try.ntmps7
  go_wp2
  clear c0 c1 c2 c3
  go_loopw [] (fun wr => ∃ k : Nat, i ≤ k ∧ k ≤ 9223372036854775807 ∧ (i < k → k ≤ n) ∧ Hid (Pl.SP bs k = Pl.SP bs i) ∧ Hid (Box wr X a n c k d sp) ∧ Hid (Below X w wr)) (fun wr => n - (intOf ((wr.cell? ⟨X, 1, none⟩).getD undef)).toNat)
  case atStart => exact ⟨i, by omega, by omega, by omega, rfl, HX, Below.refl _ _⟩
  case round =>
    obtain ⟨k, hk1, hk2, hk3, HS, HB, Hb⟩ := hrel
    obtain ⟨c0, c1, c2, c3⟩ := HB.out.cells
    have f1 := HB.out.frozen 1
    have f3 := HB.out.frozen 3
    by_cases hlt : k < n
    · obtain ⟨g, off, rfl, hcs⟩ := (HR.out wr Hb.out).2 (by omega)
      have hcell := hcs k hlt
      have hlI : (k : Int) < (n : Int) := by omega
      have hk0 : (0 : Int) ≤ (k : Int) := by omega
      cases hw : Pl.ws (bs.getD k 0)
      · have HE : Hid (Pl.SP bs i = k) := by
          show Pl.SP bs i = k
          rw [← HS.out]; exact Pl.SP_stop bs k (by rw [HL.out]; exact hlt) hw
        have hw' : Pl.ws (bs[k]?.getD 0) = false := by simpa [List.getD] using hw
        clear hw hcs
        by_cases hik : i < k
        · have hikI : (i : Int) < (k : Int) := by omega
          go_wp2
          go_quiet ((go_at_call 8; exact Calls.quiet_of_same (isSpace_any _ _)))
          go_wp2
          go_end0
          refine ⟨rfl, ?_, (Hb.out.trans (drewN_below X wr nq)).setCell (Nat.le_refl _) _⟩
          rw [HE.out, show (sp || decide (i < k)) = true by simp [hik]]
          exact (HB.out.drew nq).setsp true
        · have hikI : ¬ (i : Int) < (k : Int) := by omega
          go_wp2
          go_quiet ((go_at_call 8; exact Calls.quiet_of_same (isSpace_any _ _)))
          go_wp2
          go_end0
          refine ⟨rfl, ?_, Hb.out.trans (drewN_below X wr nq)⟩
          rw [HE.out, show (sp || decide (i < k)) = sp by simp [hik]]
          exact HB.out.drew nq
      · have HE : Hid (Pl.SP bs (k + 1) = Pl.SP bs i) := by
          show Pl.SP bs (k + 1) = Pl.SP bs i
          rw [← HS.out]; exact (Pl.SP_step bs k (by rw [HL.out]; exact hlt) hw).symm
        have hw' : Pl.ws (bs[k]?.getD 0) = true := by simpa [List.getD] using hw
        clear hw hcs
        go_wp2
        go_quiet ((go_at_call 8; exact Calls.quiet_of_same (isSpace_any _ _)))
        go_wp2
        go_roundw
        case rel =>
          refine ⟨k + 1, by omega, by omega, fun _ => by omega, HE, ?_, (Hb.out.trans (drewN_below X wr nq)).setCell (Nat.le_refl _) _⟩
          show Box _ X _ n c ((k + 1 : Nat) : Int) d sp
          rw [show ((k + 1 : Nat) : Int) = (k : Int) + 1 by omega]
          exact (HB.out.drew nq).seti _
        case measure =>
          rw [((HB.out.drew nq).seti ((k : Int) + 1)).cells.2.1, c1]
          simp [intOf]; omega
    · have hlI : decide ((k : Int) < (n : Int)) = false := decide_eq_false (by omega)
      have HE : Hid (Pl.SP bs i = k) := by
        show Pl.SP bs i = k
        rw [← HS.out]; exact Pl.SP_past bs k (by rw [HL.out]; omega)
      by_cases hik : i < k
      · have hikI : (i : Int) < (k : Int) := by omega
        go_wp2
        go_quiet (fail)
        go_wp2
        go_end0
        refine ⟨rfl, ?_, (Hb.out.trans (drewN_below X wr nq)).setCell (Nat.le_refl _) _⟩
        rw [HE.out, show (sp || decide (i < k)) = true by simp [hik]]
        exact (HB.out.drew nq).setsp true
      · have hikI : ¬ (i : Int) < (k : Int) := by omega
        go_wp2
        go_quiet (fail)
        go_wp2
        go_end0
        refine ⟨rfl, ?_, Hb.out.trans (drewN_below X wr nq)⟩
        rw [HE.out, show (sp || decide (i < k)) = sp by simp [hik]]
        exact HB.out.drew nq

/-- ZZSpace: I is the start, J the end, t the flag behind. -/
theorem zzspace (a : Option Addr) (n c : Nat) (bs : List Int) (i : Nat) (I d : Int) (sp : Bool) (J : Nat) (t : Bool) (hI : I = (i : Int)) (hn : n ≤ 1048576) (hi2 : i ≤ 9223372036854775807) (w : World)
    (hr : Rd w a n bs) (hJ : Pl.SP bs i = J) (ht : (sp || decide (i < J)) = t) :
    Calls Try.prog 5 #[.slice a n c, .int .i64 I, .int .i64 d, .bool sp] w fun e w' => e = .returned (.tuple #[.int .i64 (J : Int), .int .i64 d, .bool t]) ∧ Below w.heap.size w w' := by
  subst hI hJ ht
  have HR := hide hr
  clear hr
  go_enter Try.func5, Try.ntmps5
  go_wp2_with fail
  have hX : Box (w.alloc (.cells #[.slice a n c, .int .i64 i, .int .i64 d, .bool sp] 29)) w.heap.size a n c i d sp := heap_alloc_new w _
  have hb0 : Below w.heap.size w (w.alloc (.cells #[.slice a n c, .int .i64 i, .int .i64 d, .bool sp] 29)) := (Below.refl _ _).alloc (Nat.le_refl _) _
  refine (space_any w.heap.size a n c bs i d sp hn hi2 _ hX HR.out.1 (fun w' hw' => HR.out.below (hb0.trans hw'))).mono ?_
  rintro e w1 ⟨rfl, hB, hb1⟩
  obtain ⟨c0, c1, c2, c3⟩ := hB.cells
  have Hb := hide (hb0.trans hb1)
  clear hX hb0 hb1 hB
  go_wp2
  go_quiet (fail)
  go_wp2
  go_ret3
  exact ⟨rfl, Hb.out.trans (drewN_below _ _ _)⟩
end Go.Proofs.Qxb6618360a
