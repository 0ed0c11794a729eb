/-
  WALKS of seat b6618384a: FnPopReleasesPoppedSlots.
-/
import Derived.Test.Qxb6618384aWalkC
namespace Go.Proofs.Qxb6618384a
open Go.RowKit
set_option linter.unusedVariables false

theorem drewN_below (B : Nat) (w : World) (n : Nat) : Below B w (w.drewN n) := ⟨rfl, rfl, rfl, Nat.le_refl _, fun _ _ => rfl⟩

/-- sameMsg on two messages of one content: true. -/
theorem same_any (v v' : Value) (z : Option (List Int)) (hz : (z.getD []).length ≤ 1048576) (w : World) (h : MsgR w v z) (h' : MsgR w v' z) :
    Calls Try.prog 8 #[v, v'] w fun e w' => e = .returned (.bool true) ∧ ∃ m, w' = w.drewN m := by
  cases z with
  | none =>
    rcases h with ⟨_, rfl⟩ | ⟨_, _, _, h, _⟩
    · rcases h' with ⟨_, rfl⟩ | ⟨_, _, _, h, _⟩
      · exact same_nil w
      · cases h
    · cases h
  | some bs =>
    rcases h with ⟨h, _⟩ | ⟨a, xs, c, hx, rfl, hc⟩
    · cases h
    · cases hx
      rcases h' with ⟨h, _⟩ | ⟨b, ys, c', hy, rfl, hc'⟩
      · cases h
      · cases hy
        have cells : ∀ (a : Addr), (∀ (k : Nat) (y : Int), bs[k]? = some y → ∃ u, w.cell? (a.add k) = some u ∧ ByteR w u y) → ∀ k, k < bs.length → w.cell? (a.add k) = some (.int .u8 (bs.getD k 0)) := by
          intro a ha k hk
          obtain ⟨u, hu, rfl⟩ := ha k bs[k] (List.getElem?_eq_getElem hk)
          rw [hu]
          simp [List.getD, hk]
        exact same_some a b bs.length c c' bs hz w (cells a hc) (cells b hc')

theorem same_quiet (v v' : Value) (z : Option (List Int)) (hz : (z.getD []).length ≤ 1048576) (w : World) (m n : Nat) (h : MsgR w v z) (h' : MsgR w v' z) :
    Calls Try.prog 8 #[v, v'] (w.drewN (m + n)) fun e w' => e = .returned (.bool true) ∧ ∃ l, w' = w.drewN (m + l) := by
  have q := drewN_below w.heap.size w (m + n)
  refine (same_any v v' z hz (w.drewN (m + n)) (msgR_stays _ _ _ _ h q) (msgR_stays _ _ _ _ h' q)).mono ?_
  rintro e w' ⟨he, j, hw⟩
  exact ⟨he, n + j, by rw [hw, World.drewN_drewN, Nat.add_assoc]⟩

/-- THE POPS, behind s of them: queue i of the working copy (top row T, queue's block g, its cells vs when the pops began at w2). -/
structure InvP (w2 : World) (T g i L : Nat) (vs : List Value) (s : Nat) (wr : World) : Prop where
  topCell : ∃ V, wr.cell? ⟨T, i, none⟩ = some V ∧ (s < L → V = .slice (some ⟨g, s, none⟩) (L - s) (L - s))
  topFree : wr.frozen? ⟨T, i, none⟩ = false
  row : BlkV wr g 28 (List.replicate s (.slice none 0 0) ++ vs.drop s)
  rest : ∀ b, b < w2.heap.size → b ≠ T → b ≠ g → wr.heap[b]? = w2.heap[b]?
  os : wr.os = w2.os
  tape : wr.tape = w2.tape
  output : wr.output = w2.output
  size : w2.heap.size ≤ wr.heap.size

theorem InvP.below {w2 wr : World} {T g i L B : Nat} {vs : List Value} {s : Nat} (h : InvP w2 T g i L vs s wr) (hB : B ≤ w2.heap.size) (hT : B ≤ T) (hg : B ≤ g) : Below B w2 wr :=
  ⟨h.os, h.tape, h.output, h.size, fun b hb => h.rest b (by omega) (by omega) (by omega)⟩

theorem InvP.cell {w2 wr : World} {T g i L : Nat} {vs : List Value} {s : Nat} (h : InvP w2 T g i L vs s wr) (hv : vs.length = L) (hs : s < L) :
    wr.cell? ⟨g, s, none⟩ = some (vs.getD s (.slice none 0 0)) ∧ wr.frozen? ⟨g, s, none⟩ = false := by
  refine ⟨?_, h.row.frozen s⟩
  rw [h.row.cell s, List.getElem?_append_right (by simp)]
  simp [List.getD, List.getElem?_eq_getElem (show s < vs.length by omega)]

theorem InvP.pop {w2 wr : World} {T g i L : Nat} {vs : List Value} {s : Nat} (h : InvP w2 T g i L vs s wr) (hv : vs.length = L) (hs : s < L) (hTg : T ≠ g) (a' : Addr) (ha : 2 ≤ L - s → a' = ⟨g, s + 1, none⟩) :
    InvP w2 T g i L vs (s + 1) ((wr.setCell ⟨g, s, none⟩ (.slice none 0 0)).setCell ⟨T, i, none⟩ (.slice (some a') (L - s - 1) (L - s - 1))) := by
  obtain ⟨V, hV, _⟩ := h.topCell
  have e1 : (wr.setCell ⟨g, s, none⟩ (.slice none 0 0)).cell? ⟨T, i, none⟩ = some V :=
    (World.cell?_of_block (w := wr) (a := ⟨T, i, none⟩) (Below.heap_setCell wr ⟨g, s, none⟩ (.slice none 0 0) T hTg)).trans hV
  refine ⟨⟨_, World.cell?_setCell_same _ _ _ e1, fun hlt => ?_⟩, ?_, ?_, fun b hb n1 n2 => ?_, h.os, h.tape, h.output, ?_⟩
  · rw [ha (by omega)]
    congr 1 <;> omega
  · rw [World.frozen?_setCell, World.frozen?_setCell]; exact h.topFree
  · refine BlkV.other ?_ _ _ (Ne.symm hTg)
    have q := h.row.set s (.slice none 0 0)
    have e : (List.replicate s (Value.slice none 0 0) ++ vs.drop s).set s (.slice none 0 0) = List.replicate (s + 1) (.slice none 0 0) ++ vs.drop (s + 1) := by
      rw [List.set_append_right _ _ (by simp), List.length_replicate, Nat.sub_self, List.drop_eq_getElem_cons (by omega), List.set_cons_zero, List.replicate_succ', List.append_assoc]
      rfl
    rw [← e]
    exact q
  · rw [Below.heap_setCell _ _ _ b n1, Below.heap_setCell _ _ _ b n2]; exact h.rest b hb n1 n2
  · simpa [World.setCell] using h.size
end Go.Proofs.Qxb6618384a
