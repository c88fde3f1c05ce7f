/-
  THE LAW 'FnCommandHeadCases': proved.
-/
import Derived.Test.Qxb6602727aRows
import Derived.Test.Qxb6602727aOpenS
import Derived.Test.Qxb6602727aHead
import Derived.WalkKit
import Derived.ProofKit
import Derived.OpenShut
import Derived.ChangeOld
import Derived.Below
import Derived.Deep.Cut
import Derived.ChangeMaps5
namespace Go.Proofs.Qxb6602727a.fnCommandHeadCases
open Go.ChangeShapes Go.WideShapes Go.ChangeAt Go.RowKit
set_option linter.unusedVariables false

theorem own : ownKnob Try.prog.godebug = none := by kernel_rfl
theorem laidOut : laidOutB Try.prog = true := by kernel_rfl

set_option maxHeartbeats 4000000 in
theorem walk (h : ByteArray) (a0 : Option Addr) (len0 cap0 : Nat) (w : World) (S : Nat → ByteArray) (hh : h.size ≤ 9223372036854775807) (hnil : a0 = none → len0 = 0 ∧ cap0 = 0) (hrow : SRow w a0 len0 S) :
    Calls Try.prog 4 #[.string h, .slice a0 len0 cap0] w fun e w' => e = .returned (.bool true) ∧ Below w.heap.size w w' := by
  obtain ⟨i0, hi, hz0, hz1, hz2⟩ := info_parts Try.info9
  by_cases h20 : h.size ≤ 1048576
  case neg =>
    go_enter Try.func4, Try.ntmps4
    go_wp2_with (go_at_call 11; refine (bytes11_row h a0 len0 cap0 S w hh hrow).mono ?_; rintro e w' ⟨⟨r, rfl⟩, rfl⟩; cases r)
    · go_ret
      exact ⟨rfl, Below.refl _ _⟩
    · go_ret
      exact ⟨rfl, Below.refl _ _⟩
  have hd1 : decide ((1048576 : Int) < (h.size : Int)) = false := decide_eq_false (by omega)
  go_enter Try.func4, Try.ntmps4
  go_wp2_with (go_at_call 11; refine (bytes11_row h a0 len0 cap0 S w hh hrow).mono ?_; rintro e w' ⟨⟨r, rfl⟩, rfl⟩; cases r)
  · go_ret
    exact ⟨rfl, Below.refl _ _⟩
  refine (count_row a0 len0 cap0 S _ hrow).mono ?_
  rintro e w2 ⟨⟨t, rfl, ht, hb⟩, rfl⟩
  by_cases hsum : h.size + t ≤ 1048576
  case neg =>
    clear hnil hrow hb
    by_cases h2 : t ≤ 1048576
    · go_wp2
      go_ret
      exact ⟨rfl, Below.refl _ _⟩
    · go_wp2
      go_ret
      exact ⟨rfl, Below.refl _ _⟩
  have hn : len0 ≤ 65536 := hb (by omega)
  clear hb
  have hd2 : decide ((1048576 : Int) < (t : Int)) = false := decide_eq_false (by omega)
  have hd3 : decide ((1048576 : Int) < (h.size : Int) + (t : Int)) = false := decide_eq_false (by omega)
  go_wp2_with fail
  refine (clone_row a0 len0 cap0 S _ hn hnil hrow).mono ?_
  rintro e x1 ⟨a', rfl, hr1, hB1⟩
  clear hnil hrow
  go_upto_region 11 with (go_at_call 9; refine (zzcmd_nil _ _ _).mono ?_; rintro e x2 ⟨rfl, rfl⟩)
  have hr2 : SRow (x2.alloc (Obj.cells #[] 9)) a' len0 S := hr1.below ((Below.refl _ _).alloc (Nat.le_refl _) _)
  have hB2 : Below w2.heap.size w2 (x2.alloc (Obj.cells #[] 9)) := hB1.alloc hB1.size _
  clear hr1 hB1 hd1 hd2 hd3
  generalize x2.alloc (Obj.cells #[] 9) = y at hr2 hB2 ⊢
  have hS := hr2.2.1
  go_upto_region 13 with (first | (at_make; refine wpList_make_own _ rfl (.const (.int .i64 0)) (.tmp 38) 22 rfl y.heap.size 9 i0 (.string ⟨#[]⟩) 1 Try.underlying22 hi hz0 hz1 .i64 .i64 ((len0 : Int) + 1) (len0 + 1) rfl rfl (by omega) (by rw [hz2]; omega) (by unfold maxLen; omega) (Nat.le_refl _) ?_; intro y1 ho1 hg1) | (at_builtin; refine wpList_append_fits _ rfl (.tmp 40) (.tmp 42) 22 rfl y.heap.size 9 i0 1 Try.underlying22 hi hz1 y.heap.size 0 (len0 + 1) [] rfl (ho1.alloc _) ⟨y1.heap.size, 0, none⟩ 1 1 [.string h] rfl rfl (one_new _ _) (one_cell _) (by omega) ?_; intro y2 ho2 hg2))
  have hA0 : App y y.heap.size len0 0 h S y1 := ⟨ho1, (Below.refl _ _).grown hg1 (Nat.le_refl _) (fun k hk => by cases hk), Nat.le_refl _, (ho1.lt _ rfl).2⟩
  have hA1 : App y y.heap.size len0 1 h S y2 := App.app (k := 0) _ hA0 ho2 hg2
  clear hA0 ho1 hg1 ho2 hg2
  generalize y.heap.size = go at hA1 ⊢
  go_wp2
  go_loopw [6, 7] (fun s6 s7 wx => ∃ k : Nat, k ≤ len0 ∧ s6 = .slice (some ⟨go, 0, none⟩) (k + 1) (len0 + 1) ∧ s7 = .int .i64 (k : Int) ∧ App y go len0 (k + 1) h S wx) (fun _ s7 _ => len0 - (intOf s7).toNat)
  case atStart => exact ⟨0, by omega, rfl, rfl, hA1⟩
  case round =>
    clear hA1
    obtain ⟨k, hk, rfl, rfl, hA⟩ := hrel
    by_cases hlt : k < len0
    · rcases hr2.2.2 with h0 | ⟨b, off, rfl, hc⟩
      · omega
      have hcell : wr.cell? ⟨b, off + k, none⟩ = some (.string (S k)) := by
        have h := hc k hlt
        rw [hA.bel.cell (World.block_lt_of_cell? _ _ h)]; exact h
      have hown := hA.own
      clear hc hr2 hS
      go_wp2_with (at_builtin; refine wpList_append_fits _ rfl (.tmp 50) (.tmp 55) 22 rfl go 9 i0 1 Try.underlying22 hi hz1 go (k + 1) (len0 + 1) (pre h S (k + 1)) rfl (hown.alloc _) ⟨wr.heap.size, 0, none⟩ 1 1 [.string (S k)] rfl rfl (one_new _ _) (one_cell _) (by omega) ?_; intro y3 ho3 hg3)
      have hA2 : App y go len0 (k + 1 + 1) h S y3 := App.app (k := k + 1) _ hA ho3 hg3
      clear ho3 hg3 hA hown
      go_roundw
      case rel => exact ⟨k + 1, by omega, rfl, by go_num, hA2⟩
      case measure => simp [intOf]; omega
    · obtain rfl : k = len0 := by omega
      have hBe : Below w2.heap.size w2 wr := hB2.trans (hA.bel.mono hB2.size)
      have hrA := hA.row hn hh hS
      have hr3 := hr2.below hA.bel
      clear hr2 hA hB2 hlt hk
      go_wp2_with fail
      refine (zzcmd (some ⟨go, 0, none⟩) (k + 1) (k + 1) (hd h S) wr (by omega) hrA).mono ?_
      rintro e wz ⟨rfl, rfl⟩
      clear hrA
      cases e1 : (h.toList == [45, 99])
      · cases e2 : (h.toList == [45, 67])
        · have hp : pass h = false := by unfold pass; rw [e1, e2]; rfl
          by_cases hs : 0 < h.size
          · cases e3 : (((h[0]'hs).toNat : Int) == 45)
            · have hq : dash h = false := by rw [dash_hd hs]; exact e3
              rw [head_hit h S k hp hq]
              clear hr3
              go_wp2
              go_ret
              exact ⟨by simp, hBe⟩
            · have hq : dash h = true := by rw [dash_hd hs]; exact e3
              rw [head_dash h S k hp hq]
              go_wp2_with (go_at_call 9; refine (zzcmd a' k k S wz (by omega) hr3).mono ?_; rintro e wy ⟨rfl, rfl⟩; generalize cmdF S k k 0 = r)
              go_ret
              exact ⟨by simp, hBe⟩
          · rw [head_hit h S k hp (dash_mt hs)]
            clear hr3
            go_wp2
            go_ret
            exact ⟨by simp, hBe⟩
        · have hp : pass h = true := by unfold pass; rw [e1, e2]; rfl
          match k with
          | 0 =>
            rw [head_pass0 h S hp]
            clear hr3
            go_wp2
            go_ret
            exact ⟨by simp, hBe⟩
          | 1 =>
            rw [head_pass h S 0 hp]
            rcases hr3.2.2 with h0 | ⟨b, off, rfl, hc⟩
            · omega
            clear hr3 hc
            rw [show cmdF (fun j => S (j + 1)) 0 0 0 = ⟨#[]⟩ from rfl]
            go_wp2_with fail
            refine (zzcmd_nil _ _ wz).mono ?_
            rintro e wy ⟨rfl, rfl⟩
            go_wp2
            go_ret
            exact ⟨by simp, hBe⟩
          | m + 2 =>
            rw [head_pass h S (m + 1) hp]
            rcases hr3.2.2 with h0 | ⟨b, off, rfl, hc⟩
            · omega
            have hr4 : SRow wz (some ⟨b, off + 1, none⟩) (m + 1) (fun j => S (j + 1)) := ⟨by omega, (fun j => hS (j + 1)), .inr ⟨b, off + 1, rfl, fun j hj => by rw [show off + 1 + j = off + (j + 1) by omega]; exact hc (j + 1) (by omega)⟩⟩
            clear hr3 hc
            go_wp2_with fail
            refine (zzcmd _ (m + 1) _ (fun j => S (j + 1)) wz (by omega) hr4).mono ?_
            rintro e wy ⟨rfl, rfl⟩
            generalize cmdF (fun j => S (j + 1)) (m + 1) (m + 1) 0 = r
            go_wp2
            go_ret
            exact ⟨by simp, hBe⟩
      · have hp : pass h = true := by unfold pass; rw [e1]; rfl
        match k with
        | 0 =>
          rw [head_pass0 h S hp]
          clear hr3
          go_wp2
          go_ret
          exact ⟨by simp, hBe⟩
        | 1 =>
          rw [head_pass h S 0 hp]
          rcases hr3.2.2 with h0 | ⟨b, off, rfl, hc⟩
          · omega
          clear hr3 hc
          rw [show cmdF (fun j => S (j + 1)) 0 0 0 = ⟨#[]⟩ from rfl]
          go_wp2_with fail
          refine (zzcmd_nil _ _ wz).mono ?_
          rintro e wy ⟨rfl, rfl⟩
          go_wp2
          go_ret
          exact ⟨by simp, hBe⟩
        | m + 2 =>
          rw [head_pass h S (m + 1) hp]
          rcases hr3.2.2 with h0 | ⟨b, off, rfl, hc⟩
          · omega
          have hr4 : SRow wz (some ⟨b, off + 1, none⟩) (m + 1) (fun j => S (j + 1)) := ⟨by omega, (fun j => hS (j + 1)), .inr ⟨b, off + 1, rfl, fun j hj => by rw [show off + 1 + j = off + (j + 1) by omega]; exact hc (j + 1) (by omega)⟩⟩
          clear hr3 hc
          go_wp2_with fail
          refine (zzcmd _ (m + 1) _ (fun j => S (j + 1)) wz (by omega) hr4).mono ?_
          rintro e wy ⟨rfl, rfl⟩
          generalize cmdF (fun j => S (j + 1)) (m + 1) (m + 1) 0 = r
          go_wp2
          go_ret
          exact ⟨by simp, hBe⟩
set_option maxRecDepth 100000 in
theorem lifted (os : Os) (started : os.Started) (H : Type) (enc : TypeId × Value → H) :
    ReturnsInHanded {} Try.checked os 4 .any (Rows.fnCommandHeadCasesSpec.pre6 enc Try.prog Try.f4 Rows.fnCommandHeadCasesRow.domain false) (Rows.fnCommandHeadCasesSpec.post enc Try.prog Try.f4 false true false false) := by
  refine returnsInHanded_of_change (C := Try.checked) own started (by kernel_rfl) Try.func4
    (ChangeSpec.witness6 (enc := enc) (C := Try.checked) false ⟨#[], #[.string ⟨#[]⟩, .slice none 0 0], []⟩ 8 (by kernel_rfl) (by kernel_rfl) (by kernel_rfl) (by kernel_rfl)) ?_
  intro W base args ds gs before hval0 hW hcnd _
  have hval : ∀ (j : Nat) t v, Try.f4.params[j]? = some t → args[j]? = some v → Value.okWide Try.prog W .any base t v := hval0
  have hW' := hW
  obtain ⟨p, q, hA0, hV, rfl, hfz, hnd⟩ := hW
  have hA : DataW.TrodAll enc Try.prog W 0 (fun _ => true) true Try.f4.params.toList args.toList ds p := hA0
  rw [Try.params4] at hA hval
  obtain ⟨v0, vs0, d0, ds0, p0, q0, hargs, rfl, rfl, h0, r0⟩ := trodAll_cons hA
  obtain ⟨v1, vs1, d1, ds1, p1, q1, rfl, rfl, rfl, h1, r1⟩ := trodAll_cons r0
  obtain ⟨rfl, rfl, rfl⟩ := trodAll_nil r1
  obtain rfl : args = #[v0, v1] := by cases args; simp_all
  obtain ⟨rfl, rfl⟩ := trodVars_none hV
  obtain ⟨s0, rfl, rfl, rfl, hs0⟩ := Go.ChangeMaps.open_string Try.underlying9 (hval 0 9 v0 rfl rfl) h0
  obtain ⟨a1, len1, cap1, rfl⟩ := okWide_slice Try.underlying22 (hval 1 22 v1 rfl rfl)
  have k1 := h1
  have lt1 : ∀ x ∈ p1, x.block < W.heap.size := by obtain ⟨m, hm⟩ := k1; exact DataW.trod_lt m _ _ _ hm
  obtain ⟨S, hnil0, hrow0⟩ : ∃ S : Nat → ByteArray, (a1 = none → len1 = 0 ∧ cap1 = 0) ∧ SRow W a1 len1 S := by
    obtain ⟨fuel, hf⟩ := h1
    exact open_strings (by simpa [Value.cells] using hf)
  clear hA0 hval0
  refine (walk s0 a1 len1 cap1 W S (by unfold maxLen at hs0; omega) hnil0 hrow0).mono fun e W' ⟨he, bel⟩ => ?_
  subst he
  exact ⟨_, rfl, _, _, _, [], _, [], hW', trodAll_mk1 (shut_bool Try.underlying4 _), (trodAll_cons_mk (Go.ChangeMaps.shut_string Try.underlying9 hs0) (trodAll_cons_mk (Below.trod laidOut (by kernel_rfl) (of_decide_eq_true (by kernel_rfl)) k1 bel lt1) trodAll_mk0)), rfl, bel.frame _, fun h => by cases h⟩

theorem over : Rows.fnCommandHeadCasesRow.holds Try.pinned (OpenSpec.ofChange Rows.fnCommandHeadCasesSpec) :=
  OpenClaim.holds_of_wide 4 Try.f4 rfl rfl rfl rfl rfl rfl rfl ⟨rfl, rfl, rfl, rfl, rfl⟩ rfl rfl rfl rfl rfl (by kernel_rfl) Try.func4 (by kernel_rfl)
    (of_decide_eq_true (by kernel_rfl)) (by unfold Func.isWrapper; first | (rw [if_pos (by decide +kernel)]; kernel_rfl) | (rw [if_neg (by decide +kernel)]; exact ⟨rfl, rfl⟩))
    (fun os started H enc _ => lifted os started H enc)

end Go.Proofs.Qxb6602727a.fnCommandHeadCases
namespace Go.Proofs.Qxb6602727a
theorem lawHead : Rows.FnCommandHeadCasesSaid := fnCommandHeadCases.over
end Go.Proofs.Qxb6602727a
