/-
  The walks of Instant.Before, turn.before.
-/
import Derived.Test.Qxb6003262aTurns
import Derived.RegionTactic
import Derived.BigRegion
import Derived.Deep.QuietTactic
import Derived.BigQuiet
import Derived.Deep.CutRange
import Derived.Deep.RegionHeld3
namespace Go.Proofs.Qxb6003262a
set_option linter.unusedVariables false
open Go.RowKit

theorem ibefore (s1 n1 s2 n2 : Int) (w : World) :
    Calls Try.prog 38 #[.agg #[.int .i64 s1, .int .i32 n1], .agg #[.int .i64 s2, .int .i32 n2]] w fun e w' => e = .returned (.bool (decide (s1 < s2) || (s1 == s2 && decide (n1 < n2)))) ∧ Below w.heap.size w w' := by
  have hB : Below w.heap.size w ((w.alloc (.cells #[.int .i64 s1, .int .i32 n1] 49)).alloc (.cells #[.int .i64 s2, .int .i32 n2] 49)) := ((Below.refl _ _).alloc (Nat.le_refl _) _).alloc (by simp) _
  by_cases h1 : s1 < s2
  · go_enter Try.func38, Try.ntmps38
    go_wp2
    go_ret
    exact ⟨ret_bool (by simp [h1]), hB⟩
  · by_cases h2 : s1 = s2
    · subst h2
      go_enter Try.func38, Try.ntmps38
      go_wp2
      go_ret
      exact ⟨ret_bool (by simp), hB⟩
    · have k2 : (s1 == s2) = false := by simpa using h2
      have h3 : s2 < s1 := by omega
      clear h2 h1
      go_enter Try.func38, Try.ntmps38
      go_wp2
      go_ret
      exact ⟨ret_bool (by rw [k2, decide_eq_false (by omega)]; rfl), hB⟩

theorem belowD (B : Nat) (w : World) (n : Nat) : Below B w (w.drewN n) := ⟨rfl, rfl, rfl, Nat.le_refl _, fun _ _ => rfl⟩
theorem belowDD (w : World) (n : Nat) {w' : World} (h : Below (w.drewN n).drew.heap.size (w.drewN n).drew w') : Below w.heap.size w w' := (belowD w.heap.size w n).drew.trans h

set_option maxHeartbeats 400000 in
theorem before_ptr (b1 o1 b2 o2 : Nat) (a b : Tn) (w : World)
    (e0 : w.cell? ⟨b1, o1, none⟩ = some (.int .i64 a.s)) (e1 : w.cell? ⟨b1, o1 + 1, none⟩ = some (.int .i32 a.n)) (e2 : w.cell? ⟨b1, o1 + 2, none⟩ = some (.int .i64 a.r)) (e3 : w.cell? ⟨b1, o1 + 3, none⟩ = some (.int .i64 a.u))
    (f0 : w.cell? ⟨b2, o2, none⟩ = some (.int .i64 b.s)) (f1 : w.cell? ⟨b2, o2 + 1, none⟩ = some (.int .i32 b.n)) (f2 : w.cell? ⟨b2, o2 + 2, none⟩ = some (.int .i64 b.r)) (f3 : w.cell? ⟨b2, o2 + 3, none⟩ = some (.int .i64 b.u)) :
    Calls Try.prog 37 #[.pointer (some ⟨b1, o1, none⟩), .pointer (some ⟨b2, o2, none⟩)] w fun e w' => e = .returned (.bool (bef a b)) ∧ Below w.heap.size w w' := by
  by_cases h1 : a.s = b.s
  · have k1 : (a.s == b.s) = true := by simp [h1]
    have H1 : Hid (a.s = b.s) := h1
    clear h1
    by_cases h2 : a.n = b.n
    · have k2 : (a.n == b.n) = true := by simp [h2]
      have H2 : Hid (a.n = b.n) := h2
      clear h2
      by_cases h3 : a.r = b.r
      · have k3 : (a.r != b.r) = false := by simp [h3]
        have H3 : Hid (a.r = b.r) := h3
        clear h3
        go_enter Try.func37, Try.ntmps37
        go_wp2
        go_quiet (fail)
        go_wp2
        go_quiet (fail)
        go_wp2
        go_quiet (fail)
        go_wp2
        go_ret
        exact ⟨ret_bool (by unfold bef; rw [if_pos H1.out, if_pos H2.out, if_pos H3.out]), ((belowD _ _ _).trans (belowD _ _ _)).trans (belowD _ _ _)⟩
      · have k3 : (a.r != b.r) = true := by simpa using h3
        have H3 : Hid (¬ a.r = b.r) := h3
        clear h3
        go_enter Try.func37, Try.ntmps37
        go_wp2
        go_quiet (fail)
        go_wp2
        go_quiet (fail)
        go_wp2
        go_quiet (fail)
        go_wp2
        go_ret
        exact ⟨ret_bool (by unfold bef; rw [if_pos H1.out, if_pos H2.out, if_neg H3.out]), ((belowD _ _ _).trans (belowD _ _ _)).trans (belowD _ _ _)⟩
    · have k2 : (a.n == b.n) = false := by simpa using h2
      have H2 : Hid (¬ a.n = b.n) := h2
      clear h2
      go_enter Try.func37, Try.ntmps37
      go_wp2
      go_quiet (fail)
      go_wp2
      go_region_with (go_at_call 38; refine (ibefore _ _ _ _ _).mono ?_; rintro e w' ⟨rfl, hb⟩)
      all_goals go_wp2
      all_goals go_ret
      all_goals exact ⟨ret_bool (by unfold bef; rw [if_pos H1.out, if_neg H2.out, decide_eq_false (by rw [H1.out]; omega)]; rfl), belowDD _ _ (by assumption)⟩
  · have k1 : (a.s == b.s) = false := by simpa using h1
    have H1 : Hid (¬ a.s = b.s) := h1
    clear h1
    go_enter Try.func37, Try.ntmps37
    go_wp2
    go_quiet (fail)
    go_wp2
    go_region_with (go_at_call 38; refine (ibefore _ _ _ _ _).mono ?_; rintro e w' ⟨rfl, hb⟩)
    all_goals go_wp2
    all_goals go_ret
    all_goals exact ⟨ret_bool (by unfold bef; rw [if_neg H1.out]), belowDD _ _ (by assumption)⟩
end Go.Proofs.Qxb6003262a
