/-
  WALKS of seat b6618384a: zzBytes, bytesWithin.
-/
import Derived.Test.Qxb6618384aWalkA
namespace Go.Proofs.Qxb6618384a
open Go.RowKit
set_option linter.unusedVariables false

/-- A row that can be read, nil or not, in one form. -/
theorem RowR.form {α : Type} {E : World → Value → α → Prop} {w : World} {v : Value} {x : Option (List α)} (h : RowR E w v x) :
    ∃ A C, v = .slice A (x.getD []).length C ∧ (x = none → A = none) ∧ (A = none → x = none) ∧ ∀ k, k < (x.getD []).length → ∃ g off y u, A = some ⟨g, off, none⟩ ∧ (x.getD [])[k]? = some y ∧ w.cell? ⟨g, off + k, none⟩ = some u ∧ E w u y := by
  rcases h with ⟨rfl, rfl⟩ | ⟨a, xs, c, rfl, rfl, hc⟩
  · exact ⟨none, 0, rfl, fun _ => rfl, fun _ => rfl, fun k hk => absurd hk (Nat.not_lt_zero _)⟩
  · refine ⟨some a, c, rfl, fun h => by simp at h, fun h => by simp at h, fun k hk => ?_⟩
    have hk' : k < xs.length := hk
    obtain ⟨u0, h0, _⟩ := hc 0 xs[0] (List.getElem?_eq_getElem (by omega))
    obtain ⟨g, off, rfl⟩ := plain_of h0
    obtain ⟨u, hu, he⟩ := hc k xs[k] (List.getElem?_eq_getElem hk')
    rw [Addr.add_lit] at hu
    exact ⟨g, off, xs[k], u, rfl, List.getElem?_eq_getElem hk', hu, he⟩

def SmallQ (y : Option (List (Option (List Int)))) (t : Nat) : Prop := ∀ bs, some bs ∈ (y.getD []).take t → bs.length ≤ 1048576
def SmallTo (q : List (Option (List (Option (List Int))))) (j : Nat) : Prop := ∀ ms, some ms ∈ q.take j → ms.length ≤ 1048576 ∧ ∀ bs, some bs ∈ ms → bs.length ≤ 1048576

theorem smallQ_step {y : Option (List (Option (List Int)))} {t : Nat} {z : Option (List Int)} (h : SmallQ y t) (hz : (y.getD [])[t]? = some z) (hl : (z.getD []).length ≤ 1048576) : SmallQ y (t + 1) := by
  intro bs hbs
  obtain ⟨ht, e⟩ := List.getElem?_eq_some_iff.1 hz
  rw [List.take_succ_eq_append_getElem ht, List.mem_append] at hbs
  rcases hbs with hbs | hbs
  · exact h bs hbs
  · simp only [List.mem_singleton] at hbs
    rw [e] at hbs
    subst hbs
    exact hl
theorem smallTo_step {q : List (Option (List (Option (List Int))))} {j : Nat} {y : Option (List (Option (List Int)))} (h : SmallTo q j) (hy : q[j]? = some y) (hl : (y.getD []).length ≤ 1048576) (hs : SmallQ y (y.getD []).length) : SmallTo q (j + 1) := by
  intro ms hms
  obtain ⟨ht, e⟩ := List.getElem?_eq_some_iff.1 hy
  rw [List.take_succ_eq_append_getElem ht, List.mem_append] at hms
  rcases hms with hms | hms
  · exact h ms hms
  · simp only [List.mem_singleton] at hms
    rw [e] at hms
    subst hms
    refine ⟨hl, fun bs hbs => hs bs ?_⟩
    simpa using hbs

/-- What zzBytes hands back: a bool; where it says true, no slice is longer than 1<<20. -/
def BytesOut (q : List (Option (List (Option (List Int))))) (w : World) (e : Ending) (w' : World) : Prop := ∃ b, e = .returned (.bool b) ∧ (b = true → Small q) ∧ w = w'
theorem BytesOut.no (q : List (Option (List (Option (List Int))))) (w : World) : BytesOut q w (.returned (.bool false)) w := ⟨false, rfl, (fun h => by cases h), rfl⟩
theorem BytesOut.yes (q : List (Option (List (Option (List Int))))) (w : World) (h : Small q) : BytesOut q w (.returned (.bool true)) w := ⟨true, rfl, fun _ => h, rfl⟩

set_option maxRecDepth 100000 in
set_option maxHeartbeats 1000000 in
theorem bytes_any (v : Value) (i k : Int) (w : World) (x : Option (List (Option (List (Option (List Int)))))) (h : TopR w v x) :
    Calls Try.prog 4 #[v, .int .i64 i, .int .i64 k] w fun e w' => BytesOut (x.getD []) w e w' := by
  obtain ⟨A, C, rfl, _, _, hr⟩ := RowR.form h
  generalize x.getD [] = q at *
  have HR := hide hr
  clear hr h
  by_cases hn : q.length ≤ 1048576
  · obtain ⟨n, hnq⟩ : ∃ n, q.length = n := ⟨_, rfl⟩
    rw [hnq] at hn HR
    rw [hnq]
    have HN := hide hnq
    clear hnq
    go_enter Try.func4, Try.ntmps4
    go_wp2
    go_loop [7, 8] (fun s j => ∃ z k : Nat, k ≤ n ∧ z ≤ 1048576 ∧ s = .int .i64 z ∧ j = .int .i64 k ∧ Hid (SmallTo q k)) (fun _ j => n - (intOf j).toNat)
    case atStart => exact ⟨n, 0, by omega, by omega, by go_num, rfl, hide (fun ms h => by simp at h)⟩
    case round =>
      obtain ⟨z, k, hk, hz, rfl, rfl, HS⟩ := hrel
      by_cases hlt : k < n
      · obtain ⟨g, off, y, u, rfl, hy, hu, hq⟩ := HR.out k hlt
        obtain ⟨A', C', rfl, _, _, hr'⟩ := RowR.form hq
        obtain ⟨L, hL⟩ : ∃ L, (y.getD []).length = L := ⟨_, rfl⟩
        rw [hL] at hu hr'
        have HL := hide hL
        have HR' := hide hr'
        have HY := hide hy
        clear hL hr' hy hq
        by_cases hLs : L ≤ 1048576
        · by_cases hzL : z + L ≤ 1048576
          · go_wp2
            go_loop [7, 9] (fun s j => ∃ z t : Nat, t ≤ L ∧ z ≤ 1048576 ∧ s = .int .i64 z ∧ j = .int .i64 t ∧ Hid (SmallQ y t)) (fun _ j => L - (intOf j).toNat)
            case atStart => exact ⟨z + L, 0, by omega, by omega, by go_num, rfl, hide (fun bs h => by simp at h)⟩
            case round =>
              obtain ⟨z', t, ht, hz', rfl, rfl, HQ⟩ := hrel
              by_cases hlt' : t < L
              · obtain ⟨g', off', b, u', rfl, hb, hu', hm⟩ := HR'.out t hlt'
                obtain ⟨A'', C'', rfl, _, _, _⟩ := RowR.form hm
                obtain ⟨M, hM⟩ : ∃ M, (b.getD []).length = M := ⟨_, rfl⟩
                rw [hM] at hu'
                have HM := hide hM
                have HBb := hide hb
                clear hM hb hm
                by_cases hMs : M ≤ 1048576
                · have HQ' := hide (smallQ_step HQ.out HBb.out (by rw [HM.out]; exact hMs))
                  go_wp2
                  · go_ret
                    exact BytesOut.no _ _
                  · go_round
                    case rel => exact ⟨z' + M, t + 1, by omega, by omega, by go_num, by go_num, HQ'⟩
                    case measure => simp [intOf]; omega
                · go_wp2
                  go_ret
                  exact BytesOut.no _ _
              · have htL : t = L := by omega
                have HS' : Hid (SmallTo q (k + 1)) := smallTo_step HS.out HY.out (by rw [HL.out]; exact hLs) (by rw [HL.out, ← htL]; exact HQ.out)
                go_wp2
                go_round
                case rel => exact ⟨z', k + 1, by omega, by omega, rfl, by go_num, HS'⟩
                case measure => simp [intOf]; omega
          · go_wp2
            go_ret
            exact BytesOut.no _ _
        · go_wp2
          go_ret
          exact BytesOut.no _ _
      · have hkn : k = n := by omega
        go_wp2
        go_ret
        refine BytesOut.yes _ _ ⟨by rw [HN.out]; exact hn, fun ms hms => HS.out ms ?_⟩
        rw [hkn, ← HN.out, List.take_length]; exact hms
  · generalize q.length = n at *
    go_enter Try.func4, Try.ntmps4
    go_wp2
    go_ret
    exact BytesOut.no _ _

def BoolOut (w : World) (e : Ending) (w' : World) : Prop := ∃ b, e = .returned (.bool b) ∧ w = w'
theorem BoolOut.mk (w : World) (b : Bool) : BoolOut w (.returned (.bool b)) w := ⟨b, rfl, rfl⟩

set_option maxRecDepth 100000 in
set_option maxHeartbeats 1000000 in
theorem within_any (v : Value) (w : World) (x : Option (List (Option (List (Option (List Int)))))) (h : TopR w v x) (hsm : Small (x.getD [])) :
    Calls Try.prog 5 #[v] w fun e w' => BoolOut w e w' := by
  obtain ⟨A, C, rfl, _, _, hr⟩ := RowR.form h
  generalize x.getD [] = q at *
  obtain ⟨hn, hsm'⟩ := hsm
  have HSM := hide hsm'
  have HR := hide hr
  clear hr h hsm'
  obtain ⟨n, hnq⟩ : ∃ n, q.length = n := ⟨_, rfl⟩
  rw [hnq] at hn HR
  rw [hnq]
  clear hnq
  go_enter Try.func5, Try.ntmps5
  go_wp2
  go_loop [3, 4] (fun s j => ∃ (z : Int) (k : Nat), k ≤ n ∧ 0 ≤ z ∧ z ≤ 1048576 ∧ s = .int .i64 z ∧ j = .int .i64 k) (fun _ j => n - (intOf j).toNat)
  case atStart => exact ⟨0, 0, by omega, by omega, by omega, rfl, rfl⟩
  case round =>
    obtain ⟨z, k, hk, hz0, hz, rfl, rfl⟩ := hrel
    by_cases hlt : k < n
    · obtain ⟨g, off, y, u, rfl, hy, hu, hq⟩ := HR.out k hlt
      obtain ⟨A', C', rfl, _, _, hr'⟩ := RowR.form hq
      obtain ⟨L, hL⟩ : ∃ L, (y.getD []).length = L := ⟨_, rfl⟩
      have hLs : L ≤ 1048576 := by
        cases y with
        | none => simp at hL; omega
        | some ms => have := (HSM.out ms (List.mem_of_getElem? hy)).1; simp at hL; omega
      rw [hL] at hu hr'
      have HR' := hide hr'
      clear hL hr' hy hq
      by_cases hz1 : z + 24 ≤ 1048576
      · by_cases hz2 : z + 24 + 24 * (L : Int) ≤ 1048576
        · go_wp2
          go_loop [3, 6] (fun s j => ∃ (z : Int) (t : Nat), t ≤ L ∧ 0 ≤ z ∧ z ≤ 1048576 ∧ s = .int .i64 z ∧ j = .int .i64 t) (fun _ j => L - (intOf j).toNat)
          case atStart => exact ⟨z + 24 + 24 * L, 0, by omega, by omega, by omega, rfl, rfl⟩
          case round =>
            obtain ⟨z', t, ht, hz0', hz', rfl, rfl⟩ := hrel
            by_cases hlt' : t < L
            · obtain ⟨g', off', b, u', rfl, hb, hu', hm⟩ := HR'.out t hlt'
              obtain ⟨A'', C'', rfl, _, _, _⟩ := RowR.form hm
              obtain ⟨M, hM⟩ : ∃ M, (b.getD []).length = M := ⟨_, rfl⟩
              rw [hM] at hu'
              clear hM hb hm
              by_cases hMs : M ≤ 1048576
              · go_wp2
                · go_ret
                  exact BoolOut.mk _ _
                · go_round
                  case rel => exact ⟨z' + M, t + 1, by omega, by omega, by omega, rfl, by go_num⟩
                  case measure => simp [intOf]; omega
              · go_wp2
                go_ret
                exact BoolOut.mk _ _
            · go_wp2
              go_round
              case rel => exact ⟨z', k + 1, by omega, by omega, by omega, rfl, by go_num⟩
              case measure => simp [intOf]; omega
        · go_wp2
          go_ret
          exact BoolOut.mk _ _
      · go_wp2
        go_ret
        exact BoolOut.mk _ _
    · go_wp2
      go_ret
      exact BoolOut.mk _ _
end Go.Proofs.Qxb6618384a
