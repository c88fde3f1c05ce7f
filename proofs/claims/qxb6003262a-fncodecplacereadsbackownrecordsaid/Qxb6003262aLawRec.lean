/-
  THE LAW 'FnCodecPlaceReadsBackOwnRecord': proved.
-/
import Derived.Test.Qxb6003262aRows
import Derived.Test.Qxb6003262aRecMain
import Derived.WalkKit
import Derived.ProofKit
import Derived.OpenShut
import Derived.ShutString
import Derived.ChangeOld
import Derived.Below
namespace Go.Proofs.Qxb6003262a.fnCodecPlaceReadsBackOwnRecord
open Go.ChangeShapes Go.WideShapes Go.ChangeAt Go.RowKit
open Go.ChangeMaps (open_string shut_string)
set_option linter.unusedVariables false

theorem own : ownKnob Try.prog.godebug = none := by kernel_rfl
theorem laidOut : laidOutB Try.prog = true := by kernel_rfl

def IsRow (k : IntKind) (w : World) (a : Option Addr) (len cap : Nat) (zs : List Int) : Prop :=
  (a = none ∧ len = 0 ∧ cap = 0 ∧ zs = []) ∨
  ∃ x, a = some x ∧ len ≤ cap ∧ cap ≤ maxLen ∧ zs.length = cap ∧ (∀ i, i < zs.length → w.cell? (x.add i) = some (.int k (zs.getD i 0))) ∧ ∀ n ∈ zs, (Lit.int k n).wf = true

theorem row8_of {w : World} {a : Option Addr} {len cap : Nat} {zs : List Int} (h : IsRow .u8 w a len cap zs) (hl : len ≤ 1099511627776) : Row8 w a len zs := by
  rcases h with ⟨rfl, rfl, rfl, rfl⟩ | ⟨x, rfl, h1, h2, h3, h4, h5⟩
  · exact ⟨by omega, fun j => by simp, .inl rfl⟩
  · refine ⟨hl, fun j => range_u8 h5 j, ?_⟩
    by_cases hz : len = 0
    · exact .inl hz
    · obtain ⟨b, off, rfl, hc⟩ := ints_at h4 (by omega)
      refine .inr ⟨b, off, rfl, fun j hj => ?_⟩
      rw [hc j (by omega), List.getD_eq_getElem?_getD]

theorem array5 {α : Type} {cs : Array α} (h : cs.size = 5) : ∃ c0 c1 c2 c3 c4, cs = #[c0, c1, c2, c3, c4] := by
  obtain ⟨l⟩ := cs
  match l, h with
  | [c0, c1, c2, c3, c4], _ => exact ⟨c0, c1, c2, c3, c4, rfl⟩
theorem Try.cells31 : Try.prog.cellsOf 31 = 5 := by kernel_rfl
theorem Try.cells2 : Try.prog.cellsOf 2 = 1 := by kernel_rfl
theorem Try.cells3 : Try.prog.cellsOf 3 = 1 := by kernel_rfl
theorem open_codec {H : Type} {enc : TypeId × Value → H} {w : World} {base b0 : Nat} {spare : Nat → Bool} {held : Bool} {r : Reach} {v : Value} {d : DataW H} {p : List MemPlace}
    (hv : Value.okWide Try.prog w r b0 31 v) (h : DataW.Trod enc Try.prog w base spare held 31 v d p) :
    ∃ c0 c1 c2 c3 c4 : Int, v = .agg #[.int .i64 c0, .int .i64 c1, .int .i64 c2, .int .i64 c3, .int .i64 c4] ∧ (Lit.int .i64 c0).wf = true ∧ (Lit.int .i64 c1).wf = true := by
  obtain ⟨cs, rfl, hsz⟩ := okWide_struct Try.underlying31 hv
  obtain ⟨x0, x1, x2, x3, x4, rfl⟩ := array5 (hsz.trans Try.cells31)
  obtain ⟨fuel, hf⟩ := h
  obtain ⟨xs, n, _, _, _, hlen, hfs⟩ := DataW.trod_struct Try.underlying31 hf
  match xs, hlen with
  | [y0, y1, y2, y3, y4], _ =>
    have h0 := hfs 0 _ rfl
    have h1 := hfs 1 _ rfl
    have h2 := hfs 2 _ rfl
    have h3 := hfs 3 _ rfl
    have h4 := hfs 4 _ rfl
    simp [Value.cells, Try.cells2, Try.cells3] at h0 h1 h2 h3 h4
    obtain ⟨c0, e0, _, w0⟩ := DataW.trod_int Try.underlying2 h0
    obtain ⟨c1, e1, _, w1⟩ := DataW.trod_int Try.underlying3 h1
    obtain ⟨c2, e2, _, w2⟩ := DataW.trod_int Try.underlying3 h2
    obtain ⟨c3, e3, _, w3⟩ := DataW.trod_int Try.underlying2 h3
    obtain ⟨c4, e4, _, w4⟩ := DataW.trod_int Try.underlying3 h4
    simp at e0 e1 e2 e3 e4
    subst e0 e1 e2 e3 e4
    exact ⟨c0, c1, c2, c3, c4, rfl, w0, w1⟩

set_option maxHeartbeats 1000000 in
set_option maxRecDepth 20000 in
theorem walk (c0 c1 c2 c3 c4 S L T N lb M : Int) (a0 : Option Addr) (len0 cap0 : Nat) (z0 : List Int) (w : World) (k0 : (Lit.int .i64 c0).wf = true) (k1 : (Lit.int .i64 c1).wf = true)
    (kS : (Lit.int .i64 S).wf = true) (kL : (Lit.int .i64 L).wf = true) (kT : (Lit.int .i64 T).wf = true) (kb : (Lit.int .i64 lb).wf = true) (w0 : IsRow .u8 w a0 len0 cap0 z0) :
    Calls Try.prog 6 #[.agg #[.int .i64 c0, .int .i64 c1, .int .i64 c2, .int .i64 c3, .int .i64 c4], .int .i64 S, .int .i64 L, .int .i64 T, .int .i32 N, .int .i64 lb, .int .i32 M, .slice a0 len0 cap0] w fun e w' => e = .returned (.bool true) ∧ Below w.heap.size w w' := by
  have hB : Below w.heap.size w ((w.alloc (.cells #[.int .i64 c0, .int .i64 c1, .int .i64 c2, .int .i64 c3, .int .i64 c4] 31)).alloc (.cells #[.int .i64 c0, .int .i64 c1, .int .i64 c2, .int .i64 c3, .int .i64 c4] 31)) := ((Below.refl _ _).alloc (Nat.le_refl _) _).alloc (by simp) _
  by_cases hbig : len0 ≤ 1048576
  · by_cases h16 : len0 ≤ 65536
    · by_cases hS : S < 0
      · clear w0
        go_enter Try.func6, Try.ntmps6
        go_wp2
        go_ret
        exact ⟨rfl, hB⟩
      · by_cases hN : N < 0
        · clear w0
          go_enter Try.func6, Try.ntmps6
          go_wp2
          go_ret
          exact ⟨rfl, hB⟩
        · by_cases hN2 : 999999999 < N
          · clear w0
            go_enter Try.func6, Try.ntmps6
            go_wp2
            go_ret
            exact ⟨rfl, hB⟩
          · by_cases hl : 0 ≤ lb ∧ M < 0
            · obtain ⟨hl1, hl2⟩ := hl
              clear w0
              go_enter Try.func6, Try.ntmps6
              go_wp2
              go_ret
              exact ⟨rfl, hB⟩
            · by_cases hm : 0 ≤ lb ∧ 999999999 < M
              · obtain ⟨hl1, hl2⟩ := hm
                clear w0 hl
                go_enter Try.func6, Try.ntmps6
                go_wp2
                go_ret
                exact ⟨rfl, hB⟩
              · exact rec_main c0 c1 c2 c3 c4 S L T N lb M a0 len0 cap0 z0 w (bounds_i64 k0) (bounds_i64 k1) ⟨by omega, (bounds_i64 kS).2⟩ (bounds_i64 kL) (bounds_i64 kT) ⟨by omega, by omega⟩ (bounds_i64 kb) (fun h => ⟨by omega, by omega⟩) h16
                  (fun h => by
                    rcases w0 with ⟨_, h2, _, _⟩ | ⟨x, h1, _⟩
                    · exact h2
                    · rw [h] at h1; cases h1) (row8_of w0 (by omega))
    · clear w0
      go_enter Try.func6, Try.ntmps6
      go_wp2
      go_ret
      exact ⟨rfl, hB⟩
  · clear w0
    go_enter Try.func6, Try.ntmps6
    go_wp2
    go_ret
    exact ⟨rfl, hB⟩

set_option maxRecDepth 100000 in
theorem lifted (os : Os) (started : os.Started) (H : Type) (enc : TypeId × Value → H) :
    ReturnsInHanded {} Try.checked os 6 .any (Rows.fnCodecPlaceReadsBackOwnRecordSpec.pre6 enc Try.prog Try.f6 Rows.fnCodecPlaceReadsBackOwnRecordRow.domain false) (Rows.fnCodecPlaceReadsBackOwnRecordSpec.post enc Try.prog Try.f6 false true false false) := by
  refine returnsInHanded_of_change (C := Try.checked) own started (by kernel_rfl) Try.func6
    (ChangeSpec.witness6 (enc := enc) (C := Try.checked) false ⟨#[], #[.agg #[.int .i64 0, .int .i64 0, .int .i64 0, .int .i64 0, .int .i64 0], .int .i64 0, .int .i64 0, .int .i64 0, .int .i32 0, .int .i64 0, .int .i32 0, .slice none 0 0], []⟩ 8 (by kernel_rfl) (by kernel_rfl) (by kernel_rfl) (by kernel_rfl)) ?_
  intro W base args ds gs before hval0 hW hcnd _
  have hval : ∀ (j : Nat) t v, Try.f6.params[j]? = some t → args[j]? = some v → Value.okWide Try.prog W .any base t v := hval0
  have hW' := hW
  obtain ⟨p, q, hA0, hV, rfl, hfz, hnd⟩ := hW
  have hA : DataW.TrodAll enc Try.prog W 0 (fun _ => true) true Try.f6.params.toList args.toList ds p := hA0
  rw [Try.params6] at hA hval
  obtain ⟨v0, vs0, d0, ds0, p0, q0, hargs, rfl, rfl, h0, r0⟩ := trodAll_cons hA
  obtain ⟨v1, vs1, d1, ds1, p1, q1, rfl, rfl, rfl, h1, r1⟩ := trodAll_cons r0
  obtain ⟨v2, vs2, d2, ds2, p2, q2, rfl, rfl, rfl, h2, r2⟩ := trodAll_cons r1
  obtain ⟨v3, vs3, d3, ds3, p3, q3, rfl, rfl, rfl, h3, r3⟩ := trodAll_cons r2
  obtain ⟨v4, vs4, d4, ds4, p4, q4, rfl, rfl, rfl, h4, r4⟩ := trodAll_cons r3
  obtain ⟨v5, vs5, d5, ds5, p5, q5, rfl, rfl, rfl, h5, r5⟩ := trodAll_cons r4
  obtain ⟨v6, vs6, d6, ds6, p6, q6, rfl, rfl, rfl, h6, r6⟩ := trodAll_cons r5
  obtain ⟨v7, vs7, d7, ds7, p7, q7, rfl, rfl, rfl, h7, r7⟩ := trodAll_cons r6
  obtain ⟨rfl, rfl, rfl⟩ := trodAll_nil r7
  obtain rfl : args = #[v0, v1, v2, v3, v4, v5, v6, v7] := by cases args; simp_all
  obtain ⟨rfl, rfl⟩ := trodVars_none hV
  have k0 := h0
  have lt0 : ∀ x ∈ p0, x.block < W.heap.size := by obtain ⟨m, hm⟩ := k0; exact DataW.trod_lt m _ _ _ hm
  obtain ⟨c0, c1, c2, c3, c4, rfl, kc0, kc1⟩ := open_codec (hval 0 31 v0 rfl rfl) h0
  obtain ⟨a1, rfl, rfl, rfl, w1⟩ := open_int Try.underlying3 (hval 1 3 v1 rfl rfl) h1
  obtain ⟨a2, rfl, rfl, rfl, w2⟩ := open_int Try.underlying3 (hval 2 3 v2 rfl rfl) h2
  obtain ⟨a3, rfl, rfl, rfl, w3⟩ := open_int Try.underlying2 (hval 3 2 v3 rfl rfl) h3
  obtain ⟨a4, rfl, rfl, rfl, w4⟩ := open_int Try.underlying21 (hval 4 21 v4 rfl rfl) h4
  obtain ⟨a5, rfl, rfl, rfl, w5⟩ := open_int Try.underlying2 (hval 5 2 v5 rfl rfl) h5
  obtain ⟨a6, rfl, rfl, rfl, w6⟩ := open_int Try.underlying21 (hval 6 21 v6 rfl rfl) h6
  obtain ⟨b7, len7, cap7, rfl⟩ := okWide_slice Try.underlying22 (hval 7 22 v7 rfl rfl)
  have k7 := h7
  have lt7 : ∀ x ∈ p7, x.block < W.heap.size := by obtain ⟨m, hm⟩ := k7; exact DataW.trod_lt m _ _ _ hm
  obtain ⟨z0, w0⟩ : ∃ zs, IsRow .u8 W b7 len7 cap7 zs := by
    obtain ⟨fuel, hf⟩ := h7
    rcases open_ints Try.underlying22 Try.underlying5 (by kernel_rfl) hf with ⟨hcs, _⟩ | ⟨x, l, c, zs, hcs, _, hl, hm, hz, _, hcell, hwz⟩
    · simp [Value.cells] at hcs
      obtain ⟨rfl, rfl, rfl⟩ := hcs
      exact ⟨[], .inl ⟨rfl, rfl, rfl, rfl⟩⟩
    · simp [Value.cells] at hcs
      obtain ⟨rfl, rfl, rfl⟩ := hcs
      exact ⟨zs, .inr ⟨_, rfl, hl, hm, by simpa using hz, hcell, hwz⟩⟩
  clear hA0 hval0
  refine (walk c0 c1 c2 c3 c4 a1 a2 a3 a4 a5 a6 b7 len7 cap7 z0 W kc0 kc1 w1 w2 w3 w5 w0).mono fun e W' ⟨he, bel⟩ => ?_
  subst he
  exact ⟨_, rfl, _, _, _, [], _, [], hW', trodAll_mk1 (shut_bool Try.underlying4 _), (trodAll_cons_mk (Below.trod laidOut (by kernel_rfl) (of_decide_eq_true (by kernel_rfl)) k0 bel lt0) (trodAll_cons_mk (shut_int Try.underlying3 w1) (trodAll_cons_mk (shut_int Try.underlying3 w2) (trodAll_cons_mk (shut_int Try.underlying2 w3) (trodAll_cons_mk (shut_int Try.underlying21 w4) (trodAll_cons_mk (shut_int Try.underlying2 w5) (trodAll_cons_mk (shut_int Try.underlying21 w6) (trodAll_cons_mk (Below.trod laidOut (by kernel_rfl) (of_decide_eq_true (by kernel_rfl)) k7 bel lt7) trodAll_mk0)))))))), rfl, bel.frame _, fun h => by cases h⟩

theorem over : Rows.fnCodecPlaceReadsBackOwnRecordRow.holds Try.pinned (OpenSpec.ofChange Rows.fnCodecPlaceReadsBackOwnRecordSpec) :=
  OpenClaim.holds_of_wide 6 Try.f6 rfl rfl rfl rfl rfl rfl rfl ⟨rfl, rfl, rfl, rfl, rfl⟩ rfl rfl rfl rfl rfl (by kernel_rfl) Try.func6 (by kernel_rfl)
    (of_decide_eq_true (by kernel_rfl)) (by unfold Func.isWrapper; first | (rw [if_pos (by decide +kernel)]; kernel_rfl) | (rw [if_neg (by decide +kernel)]; exact ⟨rfl, rfl⟩))
    (fun os started H enc _ => lifted os started H enc)
end Go.Proofs.Qxb6003262a.fnCodecPlaceReadsBackOwnRecord
namespace Go.Proofs.Qxb6003262a
theorem lawRec : Rows.FnCodecPlaceReadsBackOwnRecordSaid := fnCodecPlaceReadsBackOwnRecord.over
end Go.Proofs.Qxb6003262a
