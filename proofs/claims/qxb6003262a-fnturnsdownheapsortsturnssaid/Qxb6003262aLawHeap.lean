/-
  THE LAW 'FnTurnsDownHeapsortsTurns': proved.
-/
import Derived.Test.Qxb6003262aRows
import Derived.Test.Qxb6003262aOpenT
import Derived.Test.Qxb6003262aHeapMain
import Derived.WalkKit
import Derived.ProofKit
import Derived.OpenShut
import Derived.ChangeOld
import Derived.Below
namespace Go.Proofs.Qxb6003262a.fnTurnsDownHeapsortsTurns
open Go.ChangeShapes Go.WideShapes Go.ChangeAt Go.RowKit
set_option linter.unusedVariables false

theorem own : ownKnob Try.prog.godebug = none := by kernel_rfl
theorem laidOut : laidOutB Try.prog = true := by kernel_rfl

set_option maxHeartbeats 1000000 in
theorem walk (a0 : Option Addr) (len0 cap0 : Nat) (w : World) (q : List Tn) (hq : q.length = len0) (hnil : a0 = none → len0 = 0 ∧ cap0 = 0)
    (hrow : len0 = 0 ∨ ∃ b off, a0 = some ⟨b, off, none⟩ ∧ TRow w b off q) :
    Calls Try.prog 8 #[.slice a0 len0 cap0] w fun e w' => e = .returned (.bool true) ∧ Below w.heap.size w w' := by
  by_cases h12 : len0 ≤ 4096
  · exact heap_main a0 len0 cap0 q w h12 ⟨hq, by omega, (fun h => (hnil h).1), hrow⟩
  · clear hq hnil hrow
    by_cases hbig : len0 ≤ 1048576
    · go_enter Try.func8, Try.ntmps8
      go_wp2
      go_ret
      exact ⟨rfl, Below.refl _ _⟩
    · go_enter Try.func8, Try.ntmps8
      go_wp2
      go_ret
      exact ⟨rfl, Below.refl _ _⟩
set_option maxRecDepth 100000 in
theorem lifted (os : Os) (started : os.Started) (H : Type) (enc : TypeId × Value → H) :
    ReturnsInHanded {} Try.checked os 8 .any (Rows.fnTurnsDownHeapsortsTurnsSpec.pre6 enc Try.prog Try.f8 Rows.fnTurnsDownHeapsortsTurnsRow.domain false) (Rows.fnTurnsDownHeapsortsTurnsSpec.post enc Try.prog Try.f8 false true false false) := by
  refine returnsInHanded_of_change (C := Try.checked) own started (by kernel_rfl) Try.func8
    (ChangeSpec.witness6 (enc := enc) (C := Try.checked) false ⟨#[], #[.slice none 0 0], []⟩ 8 (by kernel_rfl) (by kernel_rfl) (by kernel_rfl) (by kernel_rfl)) ?_
  intro W base args ds gs before hval0 hW hcnd _
  have hval : ∀ (j : Nat) t v, Try.f8.params[j]? = some t → args[j]? = some v → Value.okWide Try.prog W .any base t v := hval0
  have hW' := hW
  obtain ⟨p, q, hA0, hV, rfl, hfz, hnd⟩ := hW
  have hA : DataW.TrodAll enc Try.prog W 0 (fun _ => true) true Try.f8.params.toList args.toList ds p := hA0
  rw [Try.params8] at hA hval
  obtain ⟨v0, vs0, d0, ds0, p0, q0, hargs, rfl, rfl, h0, r0⟩ := trodAll_cons hA
  obtain ⟨rfl, rfl, rfl⟩ := trodAll_nil r0
  obtain rfl : args = #[v0] := by cases args; simp_all
  obtain ⟨rfl, rfl⟩ := trodVars_none hV
  obtain ⟨a0, len0, cap0, rfl⟩ := okWide_slice Try.underlying38 (hval 0 38 v0 rfl rfl)
  have k0 := h0
  have lt0 : ∀ x ∈ p0, x.block < W.heap.size := by obtain ⟨m, hm⟩ := k0; exact DataW.trod_lt m _ _ _ hm
  obtain ⟨qt, hq0, hnil0, hrow0⟩ : ∃ q : List Tn, q.length = len0 ∧ (a0 = none → len0 = 0 ∧ cap0 = 0) ∧ (len0 = 0 ∨ ∃ b off, a0 = some ⟨b, off, none⟩ ∧ TRow W b off q) := by
    obtain ⟨fuel, hf⟩ := h0
    exact open_turns (by simpa [Value.cells] using hf)
  clear hA0 hval0
  refine (walk a0 len0 cap0 W qt hq0 hnil0 hrow0).mono fun e W' ⟨he, bel⟩ => ?_
  subst he
  exact ⟨_, rfl, _, _, _, [], _, [], hW', trodAll_mk1 (shut_bool Try.underlying4 _), (trodAll_cons_mk (Below.trod laidOut (by kernel_rfl) (of_decide_eq_true (by kernel_rfl)) k0 bel lt0) trodAll_mk0), rfl, bel.frame _, fun h => by cases h⟩

theorem over : Rows.fnTurnsDownHeapsortsTurnsRow.holds Try.pinned (OpenSpec.ofChange Rows.fnTurnsDownHeapsortsTurnsSpec) :=
  OpenClaim.holds_of_wide 8 Try.f8 rfl rfl rfl rfl rfl rfl rfl ⟨rfl, rfl, rfl, rfl, rfl⟩ rfl rfl rfl rfl rfl (by kernel_rfl) Try.func8 (by kernel_rfl)
    (of_decide_eq_true (by kernel_rfl)) (by unfold Func.isWrapper; first | (rw [if_pos (by decide +kernel)]; kernel_rfl) | (rw [if_neg (by decide +kernel)]; exact ⟨rfl, rfl⟩))
    (fun os started H enc _ => lifted os started H enc)

end Go.Proofs.Qxb6003262a.fnTurnsDownHeapsortsTurns
namespace Go.Proofs.Qxb6003262a
theorem lawHeap : Rows.FnTurnsDownHeapsortsTurnsSaid := fnTurnsDownHeapsortsTurns.over
end Go.Proofs.Qxb6003262a
