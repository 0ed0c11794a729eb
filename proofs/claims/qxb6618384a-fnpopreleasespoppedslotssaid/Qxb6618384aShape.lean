/-
  SHAPES of seat b6618384a: slices of slices of slices, as they lie in memory: 'RowR': what came in; 'RowF': what the call itself has made, a block a row, inner blocks above outer ones; 'Part': a row that is being filled.
-/
import Derived.WalkKit
import Derived.WalkSpells
import Derived.Deep.Slices
namespace Go.Proofs.Qxb6618384a
open Go.RowKit
set_option linter.unusedVariables false

theorem hide {p : Prop} (h : p) : Hid p := h
theorem ret_bool {a b : Bool} (h : a = b) : Ending.returned (.bool a) = .returned (.bool b) := by rw [h]

/-- The blocks from lo on are as they were. -/
def Keep (lo : Nat) (w w' : World) : Prop := ∀ g, lo ≤ g → g < w.heap.size → w'.heap[g]? = w.heap[g]?
theorem Keep.mono {lo lo' : Nat} {w w' : World} (h : Keep lo w w') (hl : lo ≤ lo') : Keep lo' w w' := fun g h1 h2 => h g (by omega) h2
theorem Keep.of_below {lo : Nat} {w w' : World} (h : Below w.heap.size w w') : Keep lo w w' := fun g _ h2 => h.block g h2
theorem Keep.setCell {lo : Nat} {w w' : World} (h : Keep lo w w') (a : Addr) (v : Value) (ha : a.block < lo) : Keep lo w (w'.setCell a v) := fun g h1 h2 => by
  rw [Below.heap_setCell w' a v g (by omega)]; exact h g h1 h2

def BlkV (w : World) (g : Nat) (t : TypeId) (vs : List Value) : Prop := w.heap[g]? = some (.cells vs.toArray t (0, 0))
theorem BlkV.lt {w : World} {g : Nat} {t : TypeId} {vs : List Value} (h : BlkV w g t vs) : g < w.heap.size := by
  rcases Nat.lt_or_ge g w.heap.size with h' | h'
  · exact h'
  · unfold BlkV at h; rw [Array.getElem?_eq_none h'] at h; simp at h
theorem BlkV.cell {w : World} {g : Nat} {t : TypeId} {vs : List Value} (h : BlkV w g t vs) (j : Nat) : w.cell? ⟨g, j, none⟩ = vs[j]? := by
  rw [cell_of_row w g j _ t (0, 0) h]; simp
theorem BlkV.frozen {w : World} {g : Nat} {t : TypeId} {vs : List Value} (h : BlkV w g t vs) (j : Nat) : w.frozen? ⟨g, j, none⟩ = false := frozen_of_row w g j _ t h
theorem BlkV.kept {w w' : World} {g : Nat} {t : TypeId} {vs : List Value} (h : BlkV w g t vs) (e : w'.heap[g]? = w.heap[g]?) : BlkV w' g t vs := by unfold BlkV; rw [e]; exact h
theorem BlkV.set {w : World} {g : Nat} {t : TypeId} {vs : List Value} (h : BlkV w g t vs) (j : Nat) (v : Value) : BlkV (w.setCell ⟨g, j, none⟩ v) g t (vs.set j v) := by
  unfold BlkV
  rw [heap_setCell_same w g j _ t _ h]
  simp
theorem BlkV.other {w : World} {g : Nat} {t : TypeId} {vs : List Value} (h : BlkV w g t vs) (a : Addr) (v : Value) (hne : g ≠ a.block) : BlkV (w.setCell a v) g t vs :=
  h.kept (Below.heap_setCell w a v g hne)
theorem BlkV.made {w w1 : World} {n : Nat} {t : TypeId} {z : Value} (hz : z.cells = #[z]) (h : w1.ownsRow w.heap.size t 1 (.slice (some ⟨w.heap.size, 0, none⟩) n n) n (madeCells z.cells (n * 1)).toList) : BlkV w1 w.heap.size t (List.replicate n z) := by
  rcases h.2 with ⟨h', _⟩ | ⟨g', cap', cur, h', _, hg, _, _, hsz, htake⟩
  · simp at h'
  simp only [Value.slice.injEq, Option.some.injEq, Addr.mk.injEq, and_true, true_and] at h'
  obtain ⟨rfl, rfl⟩ := h'
  unfold BlkV
  rw [hg]
  have e : (madeCells z.cells (n * 1)).toList = List.replicate n z := by
    rw [hz, toList_madeCells_one z (n * 1), Nat.mul_one]
  have e2 : cur.toList = List.replicate n z := by
    rw [← e, ← htake, List.take_of_length_le (by rw [Array.length_toList, hsz]; exact Nat.le_refl _)]
  rw [← e2]

/-! ### a row that the call has made -/
section
variable {α : Type}
def RowF (E : World → Nat → Value → α → Prop) (t : TypeId) (w : World) (lo : Nat) (v : Value) (x : Option (List α)) : Prop :=
  (x = none ∧ v = .slice none 0 0) ∨
  ∃ g xs vs, x = some xs ∧ lo ≤ g ∧ v = .slice (some ⟨g, 0, none⟩) xs.length xs.length ∧ vs.length = xs.length ∧ BlkV w g t vs ∧ ∀ (k : Nat) (u : Value) (y : α), vs[k]? = some u → xs[k]? = some y → E w (g + 1) u y

def Stays (E : World → Nat → Value → α → Prop) : Prop := ∀ w w' lo u y, E w lo u y → Keep lo w w' → E w' lo u y

theorem RowF.keep {E : World → Nat → Value → α → Prop} (hE : Stays E) {t : TypeId} : Stays (RowF E t) := by
  intro w w' lo v x h hk
  rcases h with h | ⟨g, xs, vs, hx, hg, hv, hl, hb, he⟩
  · exact Or.inl h
  · exact Or.inr ⟨g, xs, vs, hx, hg, hv, hl, hb.kept (hk g hg hb.lt), fun k u y h1 h2 => hE w w' _ u y (he k u y h1 h2) (hk.mono (by omega))⟩

def Part (E : World → Nat → Value → α → Prop) (t : TypeId) (z : Value) (w : World) (g : Nat) (xs : List α) (k : Nat) : Prop :=
  ∃ vs, vs.length = xs.length ∧ BlkV w g t vs ∧ (∀ (j : Nat) (u : Value) (y : α), j < k → vs[j]? = some u → xs[j]? = some y → E w (g + 1) u y) ∧ ∀ (j : Nat) (u : Value), k ≤ j → vs[j]? = some u → u = z

theorem Part.start {E : World → Nat → Value → α → Prop} {t : TypeId} {z : Value} {w w1 : World} {xs : List α} {n : Nat} (hn : xs.length = n) (hz : z.cells = #[z])
    (h : w1.ownsRow w.heap.size t 1 (.slice (some ⟨w.heap.size, 0, none⟩) n n) n (madeCells z.cells (n * 1)).toList) : Part E t z w1 w.heap.size xs 0 := by
  subst hn
  refine ⟨List.replicate xs.length z, by simp, BlkV.made hz h, fun j u y hj => absurd hj (Nat.not_lt_zero _), fun j u _ hu => ?_⟩
  exact List.eq_of_mem_replicate (List.mem_of_getElem? hu)

theorem Part.cell {E : World → Nat → Value → α → Prop} {t : TypeId} {z : Value} {w : World} {g : Nat} {xs : List α} {k : Nat} (h : Part E t z w g xs k) (hk : k < xs.length) : w.cell? ⟨g, k, none⟩ = some z ∧ w.frozen? ⟨g, k, none⟩ = false := by
  obtain ⟨vs, hl, hb, _, hz⟩ := h
  refine ⟨?_, hb.frozen k⟩
  rw [hb.cell k, List.getElem?_eq_getElem (by omega)]
  rw [hz k vs[k] (Nat.le_refl _) (List.getElem?_eq_getElem (by omega))]

theorem Part.lt {E : World → Nat → Value → α → Prop} {t : TypeId} {z : Value} {w : World} {g : Nat} {xs : List α} {k : Nat} (h : Part E t z w g xs k) : g < w.heap.size := by
  obtain ⟨vs, hl, hb, _, hz⟩ := h
  exact hb.lt

theorem Part.keep {E : World → Nat → Value → α → Prop} (hE : Stays E) {t : TypeId} {z : Value} {w w' : World} {g : Nat} {xs : List α} {k : Nat} (h : Part E t z w g xs k) (hk : Keep g w w') : Part E t z w' g xs k := by
  obtain ⟨vs, hl, hb, he, hz⟩ := h
  exact ⟨vs, hl, hb.kept (hk g (Nat.le_refl _) hb.lt), fun j u y hj h1 h2 => hE w w' _ u y (he j u y hj h1 h2) (hk.mono (by omega)), hz⟩

theorem Part.skip {E : World → Nat → Value → α → Prop} {t : TypeId} {z : Value} {w : World} {g : Nat} {xs : List α} {k : Nat} (h : Part E t z w g xs k) {y : α} (hy : xs[k]? = some y) (he : E w (g + 1) z y) : Part E t z w g xs (k + 1) := by
  obtain ⟨vs, hl, hb, hd, hz⟩ := h
  refine ⟨vs, hl, hb, fun j u y' hj h1 h2 => ?_, fun j u hj hu => hz j u (by omega) hu⟩
  by_cases e : j = k
  · subst e
    rw [hy] at h2
    cases h2
    rw [hz j u (Nat.le_refl _) h1]
    exact he
  · exact hd j u y' (by omega) h1 h2

/-- 'row[k] = v' in the same world. -/
theorem Part.store {E : World → Nat → Value → α → Prop} (hE : Stays E) {t : TypeId} {z : Value} {w : World} {g : Nat} {xs : List α} {k : Nat} (h : Part E t z w g xs k) {y : α} (hy : xs[k]? = some y) {v : Value} (he : E w (g + 1) v y) : Part E t z (w.setCell ⟨g, k, none⟩ v) g xs (k + 1) := by
  obtain ⟨vs, hl, hb, hd, hz⟩ := h
  have hk : Keep (g + 1) w (w.setCell ⟨g, k, none⟩ v) := Keep.setCell (fun _ _ _ => rfl) _ _ (Nat.lt_succ_self g)
  refine ⟨vs.set k v, by simpa using hl, hb.set k v, fun j u y' hj h1 h2 => ?_, fun j u hj hu => ?_⟩
  · by_cases e : j = k
    · subst e
      have hj' : j < vs.length := by
        have := (List.getElem?_eq_some_iff.1 h1).1
        simpa using this
      rw [List.getElem?_set_self hj'] at h1
      cases h1
      rw [hy] at h2
      cases h2
      exact hE w _ _ _ _ he hk
    · rw [List.getElem?_set_ne (by omega)] at h1
      exact hE w _ _ _ _ (hd j u y' (by omega) h1 h2) hk
  · rw [List.getElem?_set_ne (by omega)] at hu
    exact hz j u (by omega) hu

theorem Part.done {E : World → Nat → Value → α → Prop} {t : TypeId} {z : Value} {w : World} {g lo : Nat} {xs : List α} {k n : Nat} (h : Part E t z w g xs k) (hn : xs.length = n) (hk : n ≤ k) (hlo : lo ≤ g) : RowF E t w lo (.slice (some ⟨g, 0, none⟩) n n) (some xs) := by
  subst hn
  obtain ⟨vs, hl, hb, hd, hz⟩ := h
  refine Or.inr ⟨g, xs, vs, rfl, hlo, rfl, hl, hb, fun j u y h1 h2 => hd j u y ?_ h1 h2⟩
  have := (List.getElem?_eq_some_iff.1 h1).1
  omega

/-! ### a row that can be read -/
def RowR (E : World → Value → α → Prop) (w : World) (v : Value) (x : Option (List α)) : Prop :=
  (x = none ∧ v = .slice none 0 0) ∨
  ∃ a xs c, x = some xs ∧ v = .slice (some a) xs.length c ∧ ∀ (k : Nat) (y : α), xs[k]? = some y → ∃ u, w.cell? (a.add k) = some u ∧ E w u y

def StaysR (E : World → Value → α → Prop) : Prop := ∀ w w' u y, E w u y → Below w.heap.size w w' → E w' u y

theorem RowR.below {E : World → Value → α → Prop} (hE : StaysR E) : StaysR (RowR E) := by
  intro w w' v x h hb
  rcases h with h | ⟨a, xs, c, hx, hv, hc⟩
  · exact Or.inl h
  · refine Or.inr ⟨a, xs, c, hx, hv, fun k y hy => ?_⟩
    obtain ⟨u, hu, he⟩ := hc k y hy
    have hlt := World.block_lt_of_cell? w _ hu
    exact ⟨u, by rw [hb.cell hlt]; exact hu, hE w w' u y he hb⟩

/-- What was made can be read. -/
theorem RowF.read {E : World → Nat → Value → α → Prop} {E' : World → Value → α → Prop} (hEE : ∀ w lo u y, E w lo u y → E' w u y) {t : TypeId} {w : World} {lo : Nat} {v : Value} {x : Option (List α)} (h : RowF E t w lo v x) : RowR E' w v x := by
  rcases h with h | ⟨g, xs, vs, hx, hg, hv, hl, hb, he⟩
  · exact Or.inl h
  · refine Or.inr ⟨⟨g, 0, none⟩, xs, xs.length, hx, hv, fun k y hy => ?_⟩
    have hk : k < vs.length := by have := (List.getElem?_eq_some_iff.1 hy).1; omega
    refine ⟨vs[k], ?_, hEE w _ _ _ (he k _ y (List.getElem?_eq_getElem hk) hy)⟩
    rw [Addr.add_lit, Nat.zero_add, hb.cell k, List.getElem?_eq_getElem hk]
end

/-! ### bytes, messages, queues -/
def ByteF (w : World) (lo : Nat) (u : Value) (z : Int) : Prop := u = .int .u8 z
def ByteR (w : World) (u : Value) (z : Int) : Prop := u = .int .u8 z
theorem byte_stays : Stays ByteF := fun _ _ _ _ _ h _ => h
theorem byteR_stays : StaysR ByteR := fun _ _ _ _ h _ => h
def MsgF (w : World) (lo : Nat) (v : Value) (x : Option (List Int)) : Prop := RowF ByteF 5 w lo v x
def MsgR (w : World) (v : Value) (x : Option (List Int)) : Prop := RowR ByteR w v x
theorem msg_stays : Stays MsgF := RowF.keep byte_stays
theorem msgR_stays : StaysR MsgR := RowR.below byteR_stays
theorem msg_read (w : World) (lo : Nat) (v : Value) (x : Option (List Int)) (h : MsgF w lo v x) : MsgR w v x := RowF.read (E := ByteF) (E' := ByteR) (fun _ _ _ _ h => h) h
def QueF (w : World) (lo : Nat) (v : Value) (x : Option (List (Option (List Int)))) : Prop := RowF MsgF 28 w lo v x
def QueR (w : World) (v : Value) (x : Option (List (Option (List Int)))) : Prop := RowR MsgR w v x
theorem que_stays : Stays QueF := RowF.keep msg_stays
theorem queR_stays : StaysR QueR := RowR.below msgR_stays
theorem que_read (w : World) (lo : Nat) (v : Value) (x : Option (List (Option (List Int)))) (h : QueF w lo v x) : QueR w v x := RowF.read msg_read h
def TopF (w : World) (lo : Nat) (v : Value) (x : Option (List (Option (List (Option (List Int)))))) : Prop := RowF QueF 25 w lo v x
def TopR (w : World) (v : Value) (x : Option (List (Option (List (Option (List Int)))))) : Prop := RowR QueR w v x
theorem top_stays : Stays TopF := RowF.keep que_stays
theorem topR_stays : StaysR TopR := RowR.below queR_stays
theorem top_read (w : World) (lo : Nat) (v : Value) (x : Option (List (Option (List (Option (List Int)))))) (h : TopF w lo v x) : TopR w v x := RowF.read que_read h

/-- No slice is longer than 1<<20. -/
def Small (q : List (Option (List (Option (List Int))))) : Prop :=
  q.length ≤ 1048576 ∧ ∀ ms, some ms ∈ q → ms.length ≤ 1048576 ∧ ∀ bs, some bs ∈ ms → bs.length ≤ 1048576
end Go.Proofs.Qxb6618384a
