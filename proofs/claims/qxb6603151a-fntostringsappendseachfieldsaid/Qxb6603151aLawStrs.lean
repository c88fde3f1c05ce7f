/-
  THE LAW 'FnToStringsAppendsEachField': proved.
-/
import Derived.Test.Qxb6603151aRows
import Derived.Test.Qxb6603151aOpenR
import Derived.Test.Qxb6603151aBytes
import Derived.Test.Qxb6603151aClone
import Derived.Test.Qxb6603151aTos
import Derived.WalkKit
import Derived.ProofKit
import Derived.OpenShut
import Derived.ChangeOld
import Derived.Below
import Derived.BigQuiet
import Derived.Deep.Cut
namespace Go.Proofs.Qxb6603151a.fnToStrings
open Go.ChangeShapes Go.WideShapes Go.ChangeAt Go.RowKit
set_option linter.unusedVariables false

theorem own : ownKnob Try.prog.godebug = none := by kernel_rfl
theorem laidOut : laidOutB Try.prog = true := by kernel_rfl

set_option maxHeartbeats 1000000 in
theorem walk_big (a0 : Option Addr) (n0 c0 : Nat) (a1 : Option Addr) (n1 c1 : Nat) (w : World) (F : Nat → Fd) (S : Nat → ByteArray)
    (hR : RRow w a0 n0 F) (hS : SRow w a1 n1 S) (hbig : ¬ (n0 ≤ 65536 ∧ n1 ≤ 65536)) :
    Calls Try.prog 6 #[.slice a0 n0 c0, .slice a1 n1 c1] w fun e w' => e = .returned (.bool true) ∧ Below w.heap.size w w' := by
  have hm0 := hR.max
  have hm1 := hS.1
  by_cases h0 : n0 ≤ 65536
  · have h1 : ¬ n1 ≤ 65536 := by omega
    clear hbig
    go_enter Try.func6, Try.ntmps6
    go_wp2_with (go_at_call 17; refine (bytes17 a0 a1 n0 c0 n1 c1 F S w hR hS).mono ?_; rintro e w' ⟨⟨r, rfl⟩, rfl⟩; cases r)
    · go_ret
      exact ⟨rfl, Below.refl _ _⟩
    · go_ret
      exact ⟨rfl, Below.refl _ _⟩
  · clear hbig
    go_enter Try.func6, Try.ntmps6
    go_wp2_with (go_at_call 17; refine (bytes17 a0 a1 n0 c0 n1 c1 F S w hR hS).mono ?_; rintro e w' ⟨⟨r, rfl⟩, rfl⟩; cases r)
    · go_ret
      exact ⟨rfl, Below.refl _ _⟩
    · go_ret
      exact ⟨rfl, Below.refl _ _⟩

set_option maxHeartbeats 4000000 in
theorem walk (a0 : Option Addr) (n0 c0 : Nat) (a1 : Option Addr) (n1 c1 : Nat) (w : World) (F : Nat → Fd) (S : Nat → ByteArray)
    (hnil0 : a0 = none → n0 = 0 ∧ c0 = 0) (hR : RRow w a0 n0 F) (hnil1 : a1 = none → n1 = 0 ∧ c1 = 0) (hS : SRow w a1 n1 S) (hn0 : n0 ≤ 65536) (hn1 : n1 ≤ 65536) :
    Calls Try.prog 6 #[.slice a0 n0 c0, .slice a1 n1 c1] w fun e w' => e = .returned (.bool true) ∧ Below w.heap.size w w' := by
  have q22 : ∀ (w : World) (a : Option Addr) (n c n' c' : Nat), (binOp .eql 22 (.slice a n c) (.slice none n' c')).run Try.prog w = .ok (.bool a.isNone) w := fun w a n c n' c' => Lib.run_eql_slice_nil w _ _ a n c n' c' Try.underlying22
  have hd0 : decide ((65536 : Int) < (n0 : Int)) = false := decide_eq_false (by omega)
  have hd1 : decide ((65536 : Int) < (n1 : Int)) = false := decide_eq_false (by omega)
  go_enter Try.func6, Try.ntmps6
  go_wp2_with (go_at_call 17; refine (bytes17 a0 a1 n0 c0 n1 c1 F S w hR hS).mono ?_; rintro e w' ⟨⟨r, rfl⟩, rfl⟩; cases r)
  · go_ret
    exact ⟨rfl, Below.refl _ _⟩
  refine (countR a0 n0 c0 F _ hn0 hR).mono ?_
  rintro e w2 ⟨⟨t0, rfl, ht0, hz⟩, rfl⟩
  go_wp2_with fail
  refine (countS a1 n1 c1 S _ hn1 hS).mono ?_
  rintro e w3 ⟨⟨t1, rfl, ht1⟩, rfl⟩
  by_cases hsum : t0 + t1 ≤ 1048576
  case neg =>
    clear hnil0 hnil1 hR hS hz
    go_wp2
    go_ret
    exact ⟨rfl, Below.refl _ _⟩
  have hF2 := hz (by omega)
  clear hz
  have hd3 : decide ((1048576 : Int) < (t0 : Int) + (t1 : Int)) = false := decide_eq_false (by omega)
  go_wp2_with fail
  refine (cloneR a0 n0 c0 F w3 hn0 hnil0 hR hF2).mono ?_
  rintro e x1 ⟨ar, G, rfl, hRec⟩
  go_wp2_with fail
  have hS1 := hS.below hRec.bel
  refine (clone_row a1 n1 c1 S x1 hn1 hnil1 hS1).mono ?_
  rintro e x2 ⟨ad, rfl, hS2, hnn, hB2⟩
  have hR1 := hRec.row
  have hR2 := hR1.below hB2
  have hG2 : ∀ j, j < n0 → (G j).n ≤ 1048576 := fun j hj => by
    have e1 := (hR1.fld j hj).len
    have e2 := (hR.fld j hj).len
    have e3 := hF2 j hj
    rw [hRec.zs j hj] at e1
    omega
  have hGa : ∀ j, j < n0 → (G j).a = none ∨ ∃ fb, (G j).a = some ⟨fb, 0, none⟩ ∧ fb < x2.heap.size := fun j hj => by
    rcases hRec.ad j hj with h | ⟨b, e, l⟩
    · exact .inl h
    · exact .inr ⟨b, e, by have := hB2.size; omega⟩
  have hdn : ad = none → n1 = 0 := fun h => by
    subst h
    refine (hnil1 ?_).1
    cases a1
    · rfl
    · simp at hnn
  have hBx : Below w3.heap.size w3 x2 := hRec.bel.trans (hB2.mono hRec.bel.size)
  clear hR1 hRec hB2 hnn hnil0 hnil1 hR hS hF2 hS1 hd0 hd1 hd3
  go_wp2_with fail
  refine (zztos ar n0 n0 ad n1 G S x2 hn0 hn1 hR2 hG2 hGa hdn hS2).mono ?_
  rintro e x3 ⟨a', c', rfl, hS3, hiff, hB3⟩
  have hS4 := hS2.below hB3
  have hR3 := hR2.below hB3
  have hBy : Below w3.heap.size w3 x3 := hBx.trans (hB3.mono hBx.size)
  clear hB3 hBx hS2 hR2 hGa hdn
  have hcase : (ad.isNone = false ∧ a'.isNone = false) ∨ (ad.isNone = true ∧ ((n0 : Int) == 0) = false ∧ a'.isNone = false) ∨ (ad.isNone = true ∧ ((n0 : Int) == 0) = true ∧ a'.isNone = true) := by
    cases ad with
    | some x =>
      cases a' with
      | some y => exact .inl ⟨rfl, rfl⟩
      | none => simp at hiff
    | none =>
      by_cases h0 : n0 = 0
      · cases a' with
        | some y => simp [h0] at hiff
        | none => exact .inr (.inr ⟨rfl, by simp [h0], rfl⟩)
      · cases a' with
        | some y => exact .inr (.inl ⟨rfl, by simp; omega, rfl⟩)
        | none => simp [h0] at hiff
  clear hiff
  have hout : ∀ k, k < n1 → outS n1 n0 S G k = S k := fun k hk => by simp [outS, hk]
  have hout2 : ∀ k, k < n0 → outS n1 n0 S G (n1 + k) = strOf (G k).zs := fun k hk => by unfold outS; rw [if_neg (by omega), if_pos (by omega), Nat.add_sub_cancel_left]
  have hn01 : n1 + n0 ≤ 131072 := by omega
  rcases hcase with ⟨p1, p2⟩ | ⟨p1, p2, p3⟩ | ⟨p1, p2, p3⟩
  all_goals
    go_wp2
    go_loopw [6] (fun q wr => ∃ k : Nat, k ≤ n1 ∧ q = .int .i64 (k : Int) ∧ Below x3.heap.size x3 wr) (fun q _ => n1 - (intOf q).toNat)
    case atStart => exact ⟨0, by omega, rfl, Below.refl _ _⟩
    case round =>
      obtain ⟨k, hk, rfl, hB⟩ := hrel
      by_cases hlt : k < n1
      · rcases hS3.2.2 with h0 | ⟨b, off, rfl, hc⟩
        · omega
        rcases hS4.2.2 with h0 | ⟨b', off', rfl, hc'⟩
        · omega
        have hcell : wr.cell? ⟨b, off + k, none⟩ = some (.string (S k)) := by
          have h := hc k (by omega)
          rw [hout k hlt] at h
          rw [hB.cell (World.block_lt_of_cell? _ _ h)]; exact h
        have hcell' : wr.cell? ⟨b', off' + k, none⟩ = some (.string (S k)) := by
          have h := hc' k hlt
          rw [hB.cell (World.block_lt_of_cell? _ _ h)]; exact h
        have kI : (k : Int) < ((n1 + n0 : Nat) : Int) := by omega
        have kI1 : (k : Int) < (n1 : Int) := by omega
        have kI0 : (0 : Int) ≤ (k : Int) := by omega
        clear hc hc' hS3 hS4 hR3 hG2 hout hout2
        go_upto_region 17 with fail
        go_quiet (fail)
        go_wp2
        go_roundw
        case rel => exact ⟨k + 1, by omega, by go_num, hB.trans (belowD _ _ _)⟩
        case measure => simp [intOf]; omega
      · obtain rfl : n1 = k := by omega
        go_wp2
        obtain ⟨wo, rfl⟩ : ∃ wo : World, wo = wr := ⟨_, rfl⟩
        go_loopw [7] (fun q wr => ∃ k : Nat, k ≤ n0 ∧ q = .int .i64 (k : Int) ∧ Below x3.heap.size x3 wr) (fun q _ => n0 - (intOf q).toNat)
        case atStart => exact ⟨0, by omega, rfl, hB⟩
        case round =>
          obtain ⟨k, hk2, rfl, hB'⟩ := hrel
          by_cases hlt2 : k < n0
          · rcases hS3.2.2 with h0 | ⟨b, off, rfl, hc⟩
            · omega
            rcases hR3.row with h0 | ⟨b', off', rfl, hc'⟩
            · omega
            have hcell : wr.cell? ⟨b, off + (n1 + k), none⟩ = some (.string (strOf (G k).zs)) := by
              have h := hc (n1 + k) (by omega)
              rw [hout2 k hlt2] at h
              rw [hB'.cell (World.block_lt_of_cell? _ _ h)]; exact h
            have hcell' : wr.cell? ⟨b', off' + k, none⟩ = some (.slice (G k).a (G k).n (G k).c) := by
              have h := hc' k hlt2
              rw [hB'.cell (World.block_lt_of_cell? _ _ h)]; exact h
            have hF := (hR3.fld k hlt2).below hB'
            have hF2 := hG2 k hlt2
            have kI : (n1 : Int) + (k : Int) < ((n1 + n0 : Nat) : Int) := by omega
            have kI1 : (0 : Int) ≤ (n1 : Int) + (k : Int) := by omega
            have kI2 : (k : Int) < (n0 : Int) := by omega
            have kI0 : (0 : Int) ≤ (k : Int) := by omega
            clear hc hc' hS3 hS4 hR3 hG2 hout hout2
            go_upto_region 22 with fail
            go_quiet ((go_at_call 21; exact Calls.quiet_of (same_text (G k) _ _ (hF.below (belowD _ _ _)) hF2 rfl)))
            go_wp2
            go_roundw
            case rel => exact ⟨k + 1, by omega, by go_num, hB'.trans (belowD _ _ _)⟩
            case measure => simp [intOf]; omega
          · go_wp2
            go_ret
            exact ⟨rfl, hBy.trans (hB'.mono hBy.size)⟩

theorem walk_any (a0 : Option Addr) (n0 c0 : Nat) (a1 : Option Addr) (n1 c1 : Nat) (w : World) (F : Nat → Fd) (S : Nat → ByteArray)
    (hnil0 : a0 = none → n0 = 0 ∧ c0 = 0) (hR : RRow w a0 n0 F) (hnil1 : a1 = none → n1 = 0 ∧ c1 = 0) (hS : SRow w a1 n1 S) :
    Calls Try.prog 6 #[.slice a0 n0 c0, .slice a1 n1 c1] w fun e w' => e = .returned (.bool true) ∧ Below w.heap.size w w' := by
  by_cases h : n0 ≤ 65536 ∧ n1 ≤ 65536
  · exact walk a0 n0 c0 a1 n1 c1 w F S hnil0 hR hnil1 hS h.1 h.2
  · exact walk_big a0 n0 c0 a1 n1 c1 w F S hR hS h

set_option maxRecDepth 100000 in
theorem lifted (os : Os) (started : os.Started) (H : Type) (enc : TypeId × Value → H) :
    ReturnsInHanded {} Try.checked os 6 .any (Rows.fnToStringsAppendsEachFieldSpec.pre6 enc Try.prog Try.f6 Rows.fnToStringsAppendsEachFieldRow.domain false) (Rows.fnToStringsAppendsEachFieldSpec.post enc Try.prog Try.f6 false true false false) := by
  refine returnsInHanded_of_change (C := Try.checked) own started (by kernel_rfl) Try.func6
    (ChangeSpec.witness6 (enc := enc) (C := Try.checked) false ⟨#[], #[.slice none 0 0, .slice none 0 0], []⟩ 8 (by kernel_rfl) (by kernel_rfl) (by kernel_rfl) (by kernel_rfl)) ?_
  intro W base args ds gs before hval0 hW hcnd _
  have hval : ∀ (j : Nat) t v, Try.f6.params[j]? = some t → args[j]? = some v → Value.okWide Try.prog W .any base t v := hval0
  have hW' := hW
  obtain ⟨p, q, hA0, hV, rfl, hfz, hnd⟩ := hW
  have hA : DataW.TrodAll enc Try.prog W 0 (fun _ => true) true Try.f6.params.toList args.toList ds p := hA0
  rw [Try.params6] at hA hval
  obtain ⟨v0, vs0, d0, ds0, p0, q0, hargs, rfl, rfl, h0, r0⟩ := trodAll_cons hA
  obtain ⟨v1, vs1, d1, ds1, p1, q1, rfl, rfl, rfl, h1, r1⟩ := trodAll_cons r0
  obtain ⟨rfl, rfl, rfl⟩ := trodAll_nil r1
  obtain rfl : args = #[v0, v1] := by cases args; simp_all
  obtain ⟨rfl, rfl⟩ := trodVars_none hV
  obtain ⟨a0, len0, cap0, rfl⟩ := okWide_slice Try.underlying35 (hval 0 35 v0 rfl rfl)
  obtain ⟨a1, len1, cap1, rfl⟩ := okWide_slice Try.underlying22 (hval 1 22 v1 rfl rfl)
  have k0 := h0
  have k1 := h1
  have lt0 : ∀ x ∈ p0, x.block < W.heap.size := by obtain ⟨m, hm⟩ := k0; exact DataW.trod_lt m _ _ _ hm
  have lt1 : ∀ x ∈ p1, x.block < W.heap.size := by obtain ⟨m, hm⟩ := k1; exact DataW.trod_lt m _ _ _ hm
  obtain ⟨F, hnil0, hrow0⟩ : ∃ F : Nat → Fd, (a0 = none → len0 = 0 ∧ cap0 = 0) ∧ RRow W a0 len0 F := by
    obtain ⟨fuel, hf⟩ := h0
    exact open_record (by simpa [Value.cells] using hf)
  obtain ⟨S, hnil1, hrow1⟩ : ∃ S : Nat → ByteArray, (a1 = none → len1 = 0 ∧ cap1 = 0) ∧ SRow W a1 len1 S := by
    obtain ⟨fuel, hf⟩ := h1
    exact open_strings (by simpa [Value.cells] using hf)
  clear hA0 hval0
  refine (walk_any a0 len0 cap0 a1 len1 cap1 W F S hnil0 hrow0 hnil1 hrow1).mono fun e W' ⟨he, bel⟩ => ?_
  subst he
  exact ⟨_, rfl, _, _, _, [], _, [], hW', trodAll_mk1 (shut_bool Try.underlying4 _), (trodAll_cons_mk (Below.trod laidOut (by kernel_rfl) (of_decide_eq_true (by kernel_rfl)) k0 bel lt0) (trodAll_cons_mk (Below.trod laidOut (by kernel_rfl) (of_decide_eq_true (by kernel_rfl)) k1 bel lt1) trodAll_mk0)), rfl, bel.frame _, fun h => by cases h⟩

theorem over : Rows.fnToStringsAppendsEachFieldRow.holds Try.pinned (OpenSpec.ofChange Rows.fnToStringsAppendsEachFieldSpec) :=
  OpenClaim.holds_of_wide 6 Try.f6 rfl rfl rfl rfl rfl rfl rfl ⟨rfl, rfl, rfl, rfl, rfl⟩ rfl rfl rfl rfl rfl (by kernel_rfl) Try.func6 (by kernel_rfl)
    (of_decide_eq_true (by kernel_rfl)) (by unfold Func.isWrapper; first | (rw [if_pos (by decide +kernel)]; kernel_rfl) | (rw [if_neg (by decide +kernel)]; exact ⟨rfl, rfl⟩))
    (fun os started H enc _ => lifted os started H enc)

end Go.Proofs.Qxb6603151a.fnToStrings
namespace Go.Proofs.Qxb6603151a
theorem lawStrs : Rows.FnToStringsAppendsEachFieldSaid := fnToStrings.over
end Go.Proofs.Qxb6603151a
