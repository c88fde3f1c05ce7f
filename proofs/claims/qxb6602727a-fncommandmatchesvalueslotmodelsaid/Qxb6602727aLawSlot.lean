/-
  THE LAW 'FnCommandMatchesValueSlotModel': proved.
-/
import Derived.Test.Qxb6602727aRows
import Derived.Test.Qxb6602727aOpenS
import Derived.Test.Qxb6602727aModel
import Derived.WalkKit
import Derived.ProofKit
import Derived.OpenShut
import Derived.ChangeOld
import Derived.Below
namespace Go.Proofs.Qxb6602727a.fnCommandMatchesValueSlotModel
open Go.ChangeShapes Go.WideShapes Go.ChangeAt Go.RowKit
set_option linter.unusedVariables false

theorem own : ownKnob Try.prog.godebug = none := by kernel_rfl
theorem laidOut : laidOutB Try.prog = true := by kernel_rfl

set_option maxHeartbeats 1000000 in
theorem walk (a0 : Option Addr) (len0 cap0 : Nat) (w : World) (S : Nat → ByteArray) (hnil : a0 = none → len0 = 0 ∧ cap0 = 0) (hrow : SRow w a0 len0 S) :
    Calls Try.prog 3 #[.slice a0 len0 cap0] w fun e w' => e = .returned (.bool true) ∧ Below w.heap.size w w' := by
  go_enter Try.func3, Try.ntmps3
  go_wp2_with (go_at_call 6; refine (bytes6_row a0 len0 cap0 S w hrow).mono ?_; rintro e w' ⟨⟨r, rfl⟩, rfl⟩; cases r)
  · go_ret
    exact ⟨rfl, Below.refl _ _⟩
  · refine (count_row a0 len0 cap0 S _ hrow).mono ?_
    rintro e w2 ⟨⟨t, rfl, ht, hb⟩, rfl⟩
    by_cases hbig : t ≤ 1048576
    · have hn := hb hbig
      have HE : Hid (modF S len0 len0 0 = cmdF S len0 len0 0) := (agree S len0 len0 len0 0 (by omega) (by omega) rfl).symm
      clear hb
      go_wp2_with fail
      refine (clone_row a0 len0 cap0 S _ hn hnil hrow).mono ?_
      rintro e x1 ⟨a', rfl, hr1, hB1⟩
      clear hnil hrow
      go_wp2_with fail
      refine (zzcmd a' len0 len0 S x1 (by omega) hr1).mono ?_
      rintro e x2 ⟨rfl, rfl⟩
      go_wp2_with fail
      refine (model_row a' len0 len0 S _ hn hr1).mono ?_
      rintro e x3 ⟨rfl, hB3⟩
      rw [HE.out]
      have hB := hB1.trans (hB3.mono hB1.size)
      clear hr1 hB1 hB3
      generalize cmdF S len0 len0 0 = r
      go_wp2
      go_ret
      exact ⟨by simp, hB⟩
    · clear hb hnil hrow
      go_wp2
      go_ret
      exact ⟨rfl, Below.refl _ _⟩
set_option maxRecDepth 100000 in
theorem lifted (os : Os) (started : os.Started) (H : Type) (enc : TypeId × Value → H) :
    ReturnsInHanded {} Try.checked os 3 .any (Rows.fnCommandMatchesValueSlotModelSpec.pre6 enc Try.prog Try.f3 Rows.fnCommandMatchesValueSlotModelRow.domain false) (Rows.fnCommandMatchesValueSlotModelSpec.post enc Try.prog Try.f3 false true false false) := by
  refine returnsInHanded_of_change (C := Try.checked) own started (by kernel_rfl) Try.func3
    (ChangeSpec.witness6 (enc := enc) (C := Try.checked) false ⟨#[], #[.slice none 0 0], []⟩ 8 (by kernel_rfl) (by kernel_rfl) (by kernel_rfl) (by kernel_rfl)) ?_
  intro W base args ds gs before hval0 hW hcnd _
  have hval : ∀ (j : Nat) t v, Try.f3.params[j]? = some t → args[j]? = some v → Value.okWide Try.prog W .any base t v := hval0
  have hW' := hW
  obtain ⟨p, q, hA0, hV, rfl, hfz, hnd⟩ := hW
  have hA : DataW.TrodAll enc Try.prog W 0 (fun _ => true) true Try.f3.params.toList args.toList ds p := hA0
  rw [Try.params3] at hA hval
  obtain ⟨v0, vs0, d0, ds0, p0, q0, hargs, rfl, rfl, h0, r0⟩ := trodAll_cons hA
  obtain ⟨rfl, rfl, rfl⟩ := trodAll_nil r0
  obtain rfl : args = #[v0] := by cases args; simp_all
  obtain ⟨rfl, rfl⟩ := trodVars_none hV
  obtain ⟨a0, len0, cap0, rfl⟩ := okWide_slice Try.underlying22 (hval 0 22 v0 rfl rfl)
  have k0 := h0
  have lt0 : ∀ x ∈ p0, x.block < W.heap.size := by obtain ⟨m, hm⟩ := k0; exact DataW.trod_lt m _ _ _ hm
  obtain ⟨S, hnil0, hrow0⟩ : ∃ S : Nat → ByteArray, (a0 = none → len0 = 0 ∧ cap0 = 0) ∧ SRow W a0 len0 S := by
    obtain ⟨fuel, hf⟩ := h0
    exact open_strings (by simpa [Value.cells] using hf)
  clear hA0 hval0
  refine (walk a0 len0 cap0 W S hnil0 hrow0).mono fun e W' ⟨he, bel⟩ => ?_
  subst he
  exact ⟨_, rfl, _, _, _, [], _, [], hW', trodAll_mk1 (shut_bool Try.underlying4 _), (trodAll_cons_mk (Below.trod laidOut (by kernel_rfl) (of_decide_eq_true (by kernel_rfl)) k0 bel lt0) trodAll_mk0), rfl, bel.frame _, fun h => by cases h⟩

theorem over : Rows.fnCommandMatchesValueSlotModelRow.holds Try.pinned (OpenSpec.ofChange Rows.fnCommandMatchesValueSlotModelSpec) :=
  OpenClaim.holds_of_wide 3 Try.f3 rfl rfl rfl rfl rfl rfl rfl ⟨rfl, rfl, rfl, rfl, rfl⟩ rfl rfl rfl rfl rfl (by kernel_rfl) Try.func3 (by kernel_rfl)
    (of_decide_eq_true (by kernel_rfl)) (by unfold Func.isWrapper; first | (rw [if_pos (by decide +kernel)]; kernel_rfl) | (rw [if_neg (by decide +kernel)]; exact ⟨rfl, rfl⟩))
    (fun os started H enc _ => lifted os started H enc)

end Go.Proofs.Qxb6602727a.fnCommandMatchesValueSlotModel
namespace Go.Proofs.Qxb6602727a
theorem lawSlot : Rows.FnCommandMatchesValueSlotModelSaid := fnCommandMatchesValueSlotModel.over
end Go.Proofs.Qxb6602727a
