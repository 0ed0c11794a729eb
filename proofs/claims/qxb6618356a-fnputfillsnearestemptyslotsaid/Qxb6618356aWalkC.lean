/-
  WALKS of seat b6618356a: ZZIndexPut.
-/
import Derived.Test.Qxb6618356aWalkB
import Derived.Deep.QuietTactic
import Derived.BigQuiet
namespace Go.Proofs.Qxb6618356a
open Go.RowKit
set_option linter.unusedVariables false

theorem Blk.alloc {w : World} {g : Nat} {t : TypeId} {k : IntKind} {zs : List Int} (h : Blk w g t k zs) (o : Obj) : Blk (w.alloc o) g t k zs := by
  unfold Blk
  rw [Below.heap_alloc w o g h.lt]
  exact h

theorem drewN_below (B : Nat) (w : World) (n : Nat) : Below B w (w.drewN n) := ⟨rfl, rfl, rfl, Nat.le_refl _, fun _ _ => rfl⟩

/-- What put leaves, drawn from its last world. -/
theorem put_left {w w1 : World} {T Pb i : Nat} {ts ps : List Int} {tag place : Int} {o : Obj} (hT : T < w.heap.size) (hP : Pb < w.heap.size) (hTP : T ≠ Pb) (bT : Blk w T 5 .u8 ts) (bP : Blk w Pb 31 .u32 ps)
    (ha : w1.Alike (((w.alloc o).setCell ⟨T, i, none⟩ (.int .u8 tag)).setCell ⟨Pb, i, none⟩ (.int .u32 place))) (ht : w1.tape = (w.alloc o).tape) :
    w1.heap[w.heap.size]? = some o ∧ Blk w1 T 5 .u8 (ts.set i tag) ∧ Blk w1 Pb 31 .u32 (ps.set i place) ∧
      (∀ b, b < w.heap.size → b ≠ T → b ≠ Pb → w1.heap[b]? = w.heap[b]?) ∧ (∀ B, B ≤ T → B ≤ Pb → Below B w w1) := by
  obtain ⟨h1, h2, h3⟩ := ha
  have hb : ∀ b, b ≠ T → b ≠ Pb → w1.heap[b]? = (w.alloc o).heap[b]? := fun b n1 n2 => by
    rw [h1, Below.heap_setCell _ _ _ b n2, Below.heap_setCell _ _ _ b n1]
  have hbel : ∀ B, B ≤ T → B ≤ Pb → Below B w w1 := fun B hB1 hB2 => by
    have q := (((Below.refl B w).alloc (by omega) o).setCell (p := ⟨T, i, none⟩) (by exact hB1) (.int .u8 tag)).setCell (p := ⟨Pb, i, none⟩) (by exact hB2) (.int .u32 place)
    exact ⟨h2.trans q.os, ht, h3.trans q.output, by rw [h1]; exact q.size, fun k hk => by rw [h1]; exact q.block k hk⟩
  refine ⟨?_, ?_, ?_, fun b hlt n1 n2 => ?_, hbel⟩
  · rw [hb _ (by omega) (by omega)]
    exact heap_alloc_new w o
  · have q := ((bT.alloc o).set i tag).other ⟨Pb, i, none⟩ (.int .u32 place) hTP
    unfold Blk at q ⊢
    rw [h1]; exact q
  · have q := ((bP.alloc o).other ⟨T, i, none⟩ (.int .u8 tag) (Ne.symm hTP)).set i place
    unfold Blk at q ⊢
    rw [h1]; exact q
  · rw [hb b n1 n2, Below.heap_alloc w o b hlt]

theorem cell_of_box {w : World} {X : Nat} {a b c : Value} {t : TypeId} (h : w.heap[X]? = some (.cells #[a, b, c] t (0, 0))) : w.cell? ⟨X, 0, none⟩ = some a ∧ w.cell? ⟨X, 1, none⟩ = some b ∧ w.cell? ⟨X, 2, none⟩ = some c := by
  refine ⟨?_, ?_, ?_⟩ <;> (rw [cell_of_row w X _ _ t (0, 0) h]; rfl)

set_option maxHeartbeats 1000000 in
theorem zzput (T Pb m : Nat) (ts ps : List Int) (D h place : Nat) (n : Int) (hts : ts.length = m) (hps : ps.length = m) (hm0 : 1 ≤ m) (hm1 : m ≤ 65536) (hm2 : ∃ e, m = 2 ^ e) (hh : h < 18446744073709551616) (hp : place < 4294967296)
    (hF : Pl.First ts m (h % m) D) (hTP : T ≠ Pb) (w : World) (bT : Blk w T 5 .u8 ts) (bP : Blk w Pb 31 .u32 ps) :
    Calls Try.prog 9 #[.slice (some ⟨T, 0, none⟩) m m, .slice (some ⟨Pb, 0, none⟩) m m, .int .i64 n, .int .u64 h, .int .i64 place] w fun e w' =>
      e = .returned (.tuple #[.slice (some ⟨T, 0, none⟩) m m, .slice (some ⟨Pb, 0, none⟩) m m, .int .i64 n]) ∧
      Blk w' T 5 .u8 (ts.set ((h % m + D) % m) (128 + (h : Int) / 144115188075855872)) ∧ Blk w' Pb 31 .u32 (ps.set ((h % m + D) % m) place) ∧
      (∀ b, b < w.heap.size → b ≠ T → b ≠ Pb → w'.heap[b]? = w.heap[b]?) ∧ (∀ B, B ≤ T → B ≤ Pb → Below B w w') := by
  have hT := bT.lt
  have hP := bP.lt
  have HBT := hide bT
  have HBP := hide bP
  have HM := hide hm2
  have HF := hide hF
  have HTs := hide hts
  have HPs := hide hps
  clear hm2 hF hts hps bT bP
  go_enter Try.func9, Try.ntmps9
  go_wp2_with fail
  have hX := cell_of_box (heap_alloc_new w (.cells #[.slice (some ⟨T, 0, none⟩) m m, .slice (some ⟨Pb, 0, none⟩) m m, .int .i64 n] 36))
  refine (put_any w.heap.size T Pb m ts ps D h place HTs.out HPs.out hm0 hm1 HM.out hh hp HF.out hTP (by omega) (by omega) _ hX.1 hX.2.1 (HBT.out.alloc _) (HBP.out.alloc _)).mono ?_
  rintro e w1 ⟨rfl, ha, ht⟩
  obtain ⟨hbox, q1, q2, q3, q4⟩ := put_left hT hP hTP HBT.out HBP.out ha ht
  obtain ⟨c0, c1, c2⟩ := cell_of_box hbox
  have Q3 := hide q3
  clear hX ha ht q3 hbox
  go_wp2
  go_quiet (fail)
  go_wp2
  go_ret3
  exact ⟨rfl, q1, q2, Q3.out, fun B h1 h2 => (q4 B h1 h2).trans (drewN_below B w1 _)⟩
end Go.Proofs.Qxb6618356a
