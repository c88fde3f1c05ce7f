/-
  THE LAW 'FnTurnsDownMatchesTextbookSiftDown': proved.
-/
import Derived.Test.Qxb6003262aRows
import Derived.Test.Qxb6003262aOpenT
import Derived.WalkKit
import Derived.ProofKit
import Derived.OpenShut
import Derived.ChangeOld
import Derived.Below
namespace Go.Proofs.Qxb6003262a.fnTurnsDownMatchesTextbookSiftDown
open Go.ChangeShapes Go.WideShapes Go.ChangeAt Go.RowKit
set_option linter.unusedVariables false

theorem own : ownKnob Try.prog.godebug = none := by kernel_rfl
theorem laidOut : laidOutB Try.prog = true := by kernel_rfl

theorem inSub_fuel (i : Nat) : ∀ (f g k : Nat), k ≤ f → k ≤ g → inSub f k i = inSub g k i
  | 0, 0, k => fun _ _ => rfl
  | 0, g + 1, k => fun h _ => by rw [inSub, inSub, if_neg (by omega)]
  | f + 1, 0, k => fun _ h => by rw [inSub, inSub, if_neg (by omega)]
  | f + 1, g + 1, k => fun h1 h2 => by
    rw [inSub, inSub]
    split
    · exact inSub_fuel i f g _ (by omega) (by omega)
    · rfl
theorem inSub_le (i : Nat) : ∀ (f k : Nat), inSub f k i = true → i ≤ k
  | 0, k => fun h => by simp [inSub] at h; omega
  | f + 1, k => fun h => by
    rw [inSub] at h
    split at h
    · omega
    · simp at h; omega
theorem inSub_child (i x c : Nat) (hx : inSub x x i = true) (hc : (c - 1) / 2 = x) (h1 : x < c) : inSub c c i = true := by
  have hi := inSub_le i x x hx
  obtain ⟨m, rfl⟩ : ∃ m, c = m + 1 := ⟨c - 1, by omega⟩
  rw [inSub, if_pos (by omega), hc, inSub_fuel i m x x (by omega) (by omega)]
  exact hx

theorem HB_of (q : List Tn) (i : Nat) (h : ∀ k, 1 ≤ k → k < q.length → okAt q i k) : ∀ (f x : Nat), inSub x x i = true → HB f q x
  | 0, x => fun _ => trivial
  | f + 1, x => fun hx c hc hl => by
    have hpar : (c - 1) / 2 = x := by omega
    have hcs := inSub_child i x c hx hpar (by omega)
    have hi := inSub_le i x x hx
    refine ⟨fun d hd hdl => ?_, HB_of q i h f c hcs⟩
    have hd2 : (d - 1) / 2 = c := by omega
    have := h d (by omega) hdl
    unfold okAt at this
    rw [hd2] at this
    exact this (by omega) hcs
theorem agree (q : List Tn) (i : Nat) (h : ∀ k, 1 ≤ k → k < q.length → okAt q i k) : downF q i = zdF q i := by
  refine downF_zdF q i (HB_of q i h q.length i ?_)
  cases i with
  | zero => rfl
  | succ m => rw [inSub, if_neg (by omega)]; simp

set_option maxHeartbeats 1000000 in
theorem walk (a0 : Option Addr) (len0 cap0 : Nat) (a1 : Int) (w : World) (w1 : (Lit.int .i64 a1).wf = true) (q : List Tn) (hq : q.length = len0) (hnil : a0 = none → len0 = 0 ∧ cap0 = 0)
    (hrow : len0 = 0 ∨ ∃ b off, a0 = some ⟨b, off, none⟩ ∧ TRow w b off q) :
    Calls Try.prog 7 #[.slice a0 len0 cap0, .int .i64 a1] w fun e w' => e = .returned (.bool true) ∧ Below w.heap.size w w' := by
  by_cases hbig : len0 ≤ 1048576
  · by_cases h14 : len0 ≤ 16384
    · by_cases hneg : a1 < 0
      · clear hq hnil hrow
        go_enter Try.func7, Try.ntmps7
        go_wp2
        go_ret
        exact ⟨rfl, Below.refl _ _⟩
      · obtain ⟨i, rfl⟩ : ∃ i : Nat, a1 = (i : Int) := ⟨a1.toNat, by omega⟩
        have hi : (i : Int) ≤ 9223372036854775807 := (bounds_i64 w1).2
        have hT : TIn w a0 len0 q := ⟨hq, by omega, (fun h => (hnil h).1), hrow⟩
        have HQ : Hid (q.length = len0) := hq
        clear hq hnil hrow w1 hbig
        go_enter Try.func7, Try.ntmps7
        go_wp2_with (first | (go_at_call 21; refine (copyT a0 len0 cap0 q w hT).mono ?_; rintro e x1 ⟨a', rfl, hT1, hB1⟩) | (go_at_call 20; go_in) | fail)
        refine (subs_any a' len0 len0 i q x1 hi hT1).mono ?_
        rintro e x2 ⟨b, rfl, hb, hB2⟩
        have hT2 := hT1.below hB2
        have hB12 : Below w.heap.size w x2 := hB1.trans (hB2.mono hB1.size)
        clear hT1 hB1 hB2 hT
        cases b
        · clear hb
          go_wp2
          go_ret
          exact ⟨rfl, hB12⟩
        · have HE : Hid (downF q i = zdF q i) := agree q i (by rw [HQ.out]; exact hb rfl)
          have hn2 : a' = none → len0 = 0 := hT2.2.2.1
          clear hb
          go_wp2_with fail
          refine (calldown a' len0 len0 i q x2 hi hT2).mono ?_
          rintro e x3 ⟨g3, rfl, HO3, hg3, hB3⟩
          have hT3 := hT2.below hB3
          have hB13 : Below w.heap.size w x3 := hB12.trans (hB3.mono hB12.size)
          clear hT2 hB3 hB12 hg3
          go_wp2_with fail
          refine (zdown a' len0 len0 i q x3 hi hT3 hn2).mono ?_
          rintro e x4 ⟨g4, rfl, HO4, hg4, hB4⟩
          have hB14 : Below w.heap.size w x4 := hB13.trans (hB4.mono hB13.size)
          have HO5 : OwnT x4 g3 45 (zdF q i) := by rw [← HE.out]; exact (hB4.block g3 HO3.lt).trans HO3
          have hl : (zdF q i).length = len0 := (zdF_len q i).trans HQ.out
          have k3 := HO5.tin (by omega)
          have k4 := HO4.tin (by omega)
          rw [hl] at k3 k4
          clear hT3 hB4 hB13 HO3 HO4 HO5 hg4 hl
          go_wp2_with fail
          refine (same_any _ _ len0 len0 len0 (zdF q i) x4 k3 k4).mono ?_
          rintro e x5 ⟨rfl, hB5⟩
          have hB15 : Below w.heap.size w x5 := hB14.trans (hB5.mono hB14.size)
          clear k3 k4 hB5 hB14
          go_wp2
          go_ret
          exact ⟨rfl, hB15⟩
    · clear hq hnil hrow
      go_enter Try.func7, Try.ntmps7
      go_wp2
      go_ret
      exact ⟨rfl, Below.refl _ _⟩
  · clear hq hnil hrow
    go_enter Try.func7, Try.ntmps7
    go_wp2
    go_ret
    exact ⟨rfl, Below.refl _ _⟩
set_option maxRecDepth 100000 in
theorem lifted (os : Os) (started : os.Started) (H : Type) (enc : TypeId × Value → H) :
    ReturnsInHanded {} Try.checked os 7 .any (Rows.fnTurnsDownMatchesTextbookSiftDownSpec.pre6 enc Try.prog Try.f7 Rows.fnTurnsDownMatchesTextbookSiftDownRow.domain false) (Rows.fnTurnsDownMatchesTextbookSiftDownSpec.post enc Try.prog Try.f7 false true false false) := by
  refine returnsInHanded_of_change (C := Try.checked) own started (by kernel_rfl) Try.func7
    (ChangeSpec.witness6 (enc := enc) (C := Try.checked) false ⟨#[], #[.slice none 0 0, .int .i64 0], []⟩ 8 (by kernel_rfl) (by kernel_rfl) (by kernel_rfl) (by kernel_rfl)) ?_
  intro W base args ds gs before hval0 hW hcnd _
  have hval : ∀ (j : Nat) t v, Try.f7.params[j]? = some t → args[j]? = some v → Value.okWide Try.prog W .any base t v := hval0
  have hW' := hW
  obtain ⟨p, q, hA0, hV, rfl, hfz, hnd⟩ := hW
  have hA : DataW.TrodAll enc Try.prog W 0 (fun _ => true) true Try.f7.params.toList args.toList ds p := hA0
  rw [Try.params7] at hA hval
  obtain ⟨v0, vs0, d0, ds0, p0, q0, hargs, rfl, rfl, h0, r0⟩ := trodAll_cons hA
  obtain ⟨v1, vs1, d1, ds1, p1, q1, rfl, rfl, rfl, h1, r1⟩ := trodAll_cons r0
  obtain ⟨rfl, rfl, rfl⟩ := trodAll_nil r1
  obtain rfl : args = #[v0, v1] := by cases args; simp_all
  obtain ⟨rfl, rfl⟩ := trodVars_none hV
  obtain ⟨a0, len0, cap0, rfl⟩ := okWide_slice Try.underlying38 (hval 0 38 v0 rfl rfl)
  have k0 := h0
  have lt0 : ∀ x ∈ p0, x.block < W.heap.size := by obtain ⟨m, hm⟩ := k0; exact DataW.trod_lt m _ _ _ hm
  obtain ⟨qt, hq0, hnil0, hrow0⟩ : ∃ q : List Tn, q.length = len0 ∧ (a0 = none → len0 = 0 ∧ cap0 = 0) ∧ (len0 = 0 ∨ ∃ b off, a0 = some ⟨b, off, none⟩ ∧ TRow W b off q) := by
    obtain ⟨fuel, hf⟩ := h0
    exact open_turns (by simpa [Value.cells] using hf)
  obtain ⟨a1, rfl, rfl, rfl, w1⟩ := open_int Try.underlying3 (hval 1 3 v1 rfl rfl) h1
  clear hA0 hval0
  refine (walk a0 len0 cap0 a1 W w1 qt hq0 hnil0 hrow0).mono fun e W' ⟨he, bel⟩ => ?_
  subst he
  exact ⟨_, rfl, _, _, _, [], _, [], hW', trodAll_mk1 (shut_bool Try.underlying4 _), (trodAll_cons_mk (Below.trod laidOut (by kernel_rfl) (of_decide_eq_true (by kernel_rfl)) k0 bel lt0) (trodAll_cons_mk (shut_int Try.underlying3 w1) trodAll_mk0)), rfl, bel.frame _, fun h => by cases h⟩

theorem over : Rows.fnTurnsDownMatchesTextbookSiftDownRow.holds Try.pinned (OpenSpec.ofChange Rows.fnTurnsDownMatchesTextbookSiftDownSpec) :=
  OpenClaim.holds_of_wide 7 Try.f7 rfl rfl rfl rfl rfl rfl rfl ⟨rfl, rfl, rfl, rfl, rfl⟩ rfl rfl rfl rfl rfl (by kernel_rfl) Try.func7 (by kernel_rfl)
    (of_decide_eq_true (by kernel_rfl)) (by unfold Func.isWrapper; first | (rw [if_pos (by decide +kernel)]; kernel_rfl) | (rw [if_neg (by decide +kernel)]; exact ⟨rfl, rfl⟩))
    (fun os started H enc _ => lifted os started H enc)

end Go.Proofs.Qxb6003262a.fnTurnsDownMatchesTextbookSiftDown
namespace Go.Proofs.Qxb6003262a
theorem lawMatch : Rows.FnTurnsDownMatchesTextbookSiftDownSaid := fnTurnsDownMatchesTextbookSiftDown.over
end Go.Proofs.Qxb6003262a
