/-
  'Rows.FnPopReleasesPoppedSlotsSaid' PROVED. The frame: after the guide's own (proof-skeleton.mjs serves no slice of slices: its shape for a slice of integers, turned by hand); the walk: Qxb6618384aWalkE.
-/
import Derived.Test.Qxb6618384aRows
import Derived.Test.Qxb6618384aWalkE
import Derived.WalkKit
import Derived.ProofKit
import Derived.OpenShut
import Derived.ShutString
import Derived.ChangeOld
import Derived.Below
namespace Go.Proofs.Qxb6618384a.fnPopReleasesPoppedSlots
open Go.ChangeShapes Go.WideShapes Go.ChangeAt Go.RowKit
set_option linter.unusedVariables false

theorem own : ownKnob Try.prog.godebug = none := by kernel_rfl
theorem laidOut : laidOutB Try.prog = true := by kernel_rfl
theorem cells5 : Try.prog.cellsOf 5 = 1 := by kernel_rfl
theorem cells25 : Try.prog.cellsOf 25 = 1 := by kernel_rfl
theorem cells28 : Try.prog.cellsOf 28 = 1 := by kernel_rfl

/-! ### what came in can be read, level by level -/
theorem row_of {α : Type} [Inhabited α] {H : Type} {enc : TypeId × Value → H} {W : World} {E : World → Value → α → Prop} {t e : TypeId} (ht : Try.prog.underlying t = some (.slice e)) (hc : Try.prog.cellsOf e = 1)
    (hE : ∀ fuel u y, DataW.trod enc Try.prog W 0 (fun _ => true) true fuel e [u] = some y → ∃ z : α, E W u z) (fuel : Nat) (v : Value) (y : DataW H × List MemPlace)
    (h : DataW.trod enc Try.prog W 0 (fun _ => true) true fuel t [v] = some y) : ∃ x : Option (List α), RowR E W v x := by
  rcases Deep.open_slice1 ht hc h with ⟨hcs, _⟩ | ⟨a, len, cap, m, n, V, D, Pl, hcs, _, hl, _, hm, _, hx⟩
  · simp only [List.cons.injEq, and_true] at hcs
    exact ⟨none, Or.inl ⟨rfl, hcs⟩⟩
  · simp only [List.cons.injEq, and_true] at hcs
    have each : ∀ i, i < len → ∃ z : α, E W (V i) z := fun i hi => hE n (V i) _ (hx i (by rw [hm]; simp; omega)).2
    obtain ⟨f, hf⟩ := Deep.choose_lt each
    refine ⟨some ((List.range len).map f), Or.inr ⟨a, _, cap, rfl, by simpa using hcs, fun k z hz => ?_⟩⟩
    have hk : k < len := by
      have := (List.getElem?_eq_some_iff.1 hz).1
      simpa using this
    have e : z = f k := by
      rw [List.getElem?_map, List.getElem?_range hk] at hz
      simpa using hz.symm
    subst e
    exact ⟨V k, (hx k (by rw [hm]; simp; omega)).1, hf k hk⟩

theorem byte_of {H : Type} {enc : TypeId × Value → H} {W : World} (fuel : Nat) (u : Value) (y : DataW H × List MemPlace) (h : DataW.trod enc Try.prog W 0 (fun _ => true) true fuel 5 [u] = some y) : ∃ z : Int, ByteR W u z := by
  obtain ⟨a, e0, _, _⟩ := DataW.trod_int Try.underlying5 h
  simp only [List.cons.injEq, and_true] at e0
  exact ⟨a, e0⟩
theorem msg_of {H : Type} {enc : TypeId × Value → H} {W : World} (fuel : Nat) (u : Value) (y : DataW H × List MemPlace) (h : DataW.trod enc Try.prog W 0 (fun _ => true) true fuel 28 [u] = some y) : ∃ z : Option (List Int), MsgR W u z :=
  row_of Try.underlying28 cells5 byte_of fuel u y h
theorem que_of {H : Type} {enc : TypeId × Value → H} {W : World} (fuel : Nat) (u : Value) (y : DataW H × List MemPlace) (h : DataW.trod enc Try.prog W 0 (fun _ => true) true fuel 25 [u] = some y) : ∃ z : Option (List (Option (List Int))), QueR W u z :=
  row_of Try.underlying25 cells28 msg_of fuel u y h
theorem top_of {H : Type} {enc : TypeId × Value → H} {W : World} (fuel : Nat) (u : Value) (y : DataW H × List MemPlace) (h : DataW.trod enc Try.prog W 0 (fun _ => true) true fuel 22 [u] = some y) : ∃ z : Option (List (Option (List (Option (List Int))))), TopR W u z :=
  row_of Try.underlying22 cells25 que_of fuel u y h

/-! ### THE ROW's STEP -/
set_option maxRecDepth 100000 in
theorem lifted (os : Os) (started : os.Started) (H : Type) (enc : TypeId × Value → H) :
    ReturnsInHanded {} Try.checked os 3 .any (Rows.fnPopReleasesPoppedSlotsSpec.pre6 enc Try.prog Try.f3 Rows.fnPopReleasesPoppedSlotsRow.domain false) (Rows.fnPopReleasesPoppedSlotsSpec.post enc Try.prog Try.f3 false true false false) := by
  refine returnsInHanded_of_change (C := Try.checked) own started (by kernel_rfl) Try.func3
    (ChangeSpec.witness6 (enc := enc) (C := Try.checked) false ⟨#[], #[.slice none 0 0, .int .i64 0, .int .i64 0], []⟩ 8 (by kernel_rfl) (by kernel_rfl) (by kernel_rfl) (by kernel_rfl)) ?_
  intro W base args ds gs before hval0 hW hcnd _
  have hval : ∀ (j : Nat) t v, Try.f3.params[j]? = some t → args[j]? = some v → Value.okWide Try.prog W .any base t v := hval0
  have hW' := hW
  obtain ⟨p, q, hA0, hV, rfl, hfz, hnd⟩ := hW
  have hA : DataW.TrodAll enc Try.prog W 0 (fun _ => true) true Try.f3.params.toList args.toList ds p := hA0
  rw [Try.params3] at hA hval
  obtain ⟨v0, vs0, d0, ds0, p0, q0, hargs, rfl, rfl, h0, r0⟩ := trodAll_cons hA
  obtain ⟨v1, vs1, d1, ds1, p1, q1, rfl, rfl, rfl, h1, r1⟩ := trodAll_cons r0
  obtain ⟨v2, vs2, d2, ds2, p2, q2, rfl, rfl, rfl, h2, r2⟩ := trodAll_cons r1
  obtain ⟨rfl, rfl, rfl⟩ := trodAll_nil r2
  obtain rfl : args = #[v0, v1, v2] := by cases args; simp_all
  obtain ⟨rfl, rfl⟩ := trodVars_none hV
  obtain ⟨a0, len0, cap0, rfl⟩ := okWide_slice Try.underlying22 (hval 0 22 v0 rfl rfl)
  have k0 := h0
  have lt0 : ∀ x ∈ p0, x.block < W.heap.size := by obtain ⟨m, hm⟩ := k0; exact DataW.trod_lt m _ _ _ hm
  obtain ⟨z0, w0⟩ : ∃ x, TopR W (.slice a0 len0 cap0) x := by
    obtain ⟨fuel, hf⟩ := h0
    exact top_of fuel _ _ (by simpa [Value.cells] using hf)
  obtain ⟨a1, rfl, rfl, rfl, w1⟩ := open_int Try.underlying3 (hval 1 3 v1 rfl rfl) h1
  obtain ⟨a2, rfl, rfl, rfl, w2⟩ := open_int Try.underlying3 (hval 2 3 v2 rfl rfl) h2
  clear hA0 hval0
  obtain ⟨b1, b2⟩ := bounds_i64 w1
  obtain ⟨b3, b4⟩ := bounds_i64 w2
  refine (fn_walk (.slice a0 len0 cap0) a1 a2 W z0 w0 b1 b2 b3 b4).mono fun e W' ⟨he, bel⟩ => ?_
  subst he
  exact ⟨_, rfl, _, _, _, [], _, [], hW', trodAll_mk1 (shut_bool Try.underlying4 _), (trodAll_cons_mk (Below.trod laidOut (by kernel_rfl) (of_decide_eq_true (by kernel_rfl)) k0 bel lt0) (trodAll_cons_mk (shut_int Try.underlying3 w1) (trodAll_cons_mk (shut_int Try.underlying3 w2) trodAll_mk0))), rfl, bel.frame _, fun h => by cases h⟩

theorem over : Rows.fnPopReleasesPoppedSlotsRow.holds Try.pinned (OpenSpec.ofChange Rows.fnPopReleasesPoppedSlotsSpec) :=
  OpenClaim.holds_of_wide 3 Try.f3 rfl rfl rfl rfl rfl rfl rfl ⟨rfl, rfl, rfl, rfl, rfl⟩ rfl rfl rfl rfl rfl (by kernel_rfl) Try.func3 (by kernel_rfl)
    (of_decide_eq_true (by kernel_rfl)) (by unfold Func.isWrapper; first | (rw [if_pos (by decide +kernel)]; kernel_rfl) | (rw [if_neg (by decide +kernel)]; exact ⟨rfl, rfl⟩))
    (fun os started H enc _ => lifted os started H enc)

/-- ████ THE STATEMENT ████ -/
theorem proved : Rows.FnPopReleasesPoppedSlotsSaid := over
#print axioms proved
end Go.Proofs.Qxb6618384a.fnPopReleasesPoppedSlots
