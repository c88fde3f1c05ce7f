/-
  The walk of FnCodecPlaceReadsBackOwnRecord, where its domain is met.
-/
import Derived.Test.Qxb6003262aRecMid
namespace Go.Proofs.Qxb6003262a
set_option linter.unusedVariables false
open Go.RowKit

theorem or_ss : bits .or .u8 0 64 = fl true false false false := by decide
theorem or_st (ss : Bool) : bits .or .u8 (fl ss false false false) 128 = fl ss true false false := by revert ss; decide
theorem or_wh (ss st : Bool) : bits .or .u8 (fl ss st false false) 8 = fl ss st true false := by revert ss st; decide
theorem or_lt (ss st wh : Bool) : bits .or .u8 (fl ss st wh false) 4 = fl ss st wh true := by revert ss st wh; decide
theorem int_eq {k : IntKind} {a b : Int} (h : a = b) : Value.int k a = Value.int k b := by rw [h]

set_option maxHeartbeats 2000000 in
set_option maxRecDepth 20000 in
theorem rec_main (c0 c1 c2 c3 c4 S L T N lb M : Int) (a : Option Addr) (n cap : Nat) (zs : List Int) (w : World)
    (b0 : -9223372036854775808 ≤ c0 ∧ c0 ≤ 9223372036854775807) (b1 : -9223372036854775808 ≤ c1 ∧ c1 ≤ 9223372036854775807)
    (bS : 0 ≤ S ∧ S ≤ 9223372036854775807) (bL : -9223372036854775808 ≤ L ∧ L ≤ 9223372036854775807) (bT : -9223372036854775808 ≤ T ∧ T ≤ 9223372036854775807) (bN : 0 ≤ N ∧ N ≤ 999999999)
    (bb : -9223372036854775808 ≤ lb ∧ lb ≤ 9223372036854775807) (bM : 0 ≤ lb → 0 ≤ M ∧ M ≤ 999999999)
    (hn : n ≤ 65536) (hnil : a = none → n = 0) (hrow : Row8 w a n zs) :
    Calls Try.prog 6 #[.agg #[.int .i64 c0, .int .i64 c1, .int .i64 c2, .int .i64 c3, .int .i64 c4], .int .i64 S, .int .i64 L, .int .i64 T, .int .i32 N, .int .i64 lb, .int .i32 M, .slice a n cap] w fun e w' => e = .returned (.bool true) ∧ Below w.heap.size w w' := by
  obtain ⟨i0, hi, hz0, hz1, hz2⟩ := info_parts Try.info5
  obtain ⟨d, hd⟩ : ∃ d, wrap64 (L - c1) = d := ⟨_, rfl⟩
  obtain ⟨ds, hds⟩ : ∃ d, wrap64 (T - c0) = d := ⟨_, rfl⟩
  obtain ⟨ss, hss⟩ : ∃ b, (S == c2) = b := ⟨_, rfl⟩
  obtain ⟨st, hst⟩ : ∃ b, ((d == c4) && (ds == c3)) = b := ⟨_, rfl⟩
  obtain ⟨lt, hlt⟩ : ∃ b, decide (0 ≤ lb) = b := ⟨_, rfl⟩
  obtain ⟨wh, hwh⟩ : ∃ b, ((N == 0) && (!lt || M == 0)) = b := ⟨_, rfl⟩
  have HST : Hid (((d == c4) && (ds == c3)) = st) := hst
  have HWH : Hid (((N == 0) && (!lt || M == 0)) = wh) := hwh
  have HLT : Hid (decide (0 ≤ lb) = lt) := hlt
  clear hst hwh
  go_enter Try.func6, Try.ntmps6
  go_upto_region 8 with go_in
  go_cut [66] from 33 (fun s66 wc => s66 = .bool false ∧ wc = (w.alloc (.cells #[.int .i64 c0, .int .i64 c1, .int .i64 c2, .int .i64 c3, .int .i64 c4] 31)).alloc (.cells #[.int .i64 c0, .int .i64 c1, .int .i64 c2, .int .i64 c3, .int .i64 c4] 31))
  case first => as_aux_lemma =>
    cases lt
    · go_wp2
      go_meet
      case rel => exact ⟨rfl, rfl⟩
    · have hlb : 0 ≤ lb := by simpa using hlt
      have bM' := bM hlb
      go_wp2
      go_meet
      case rel => exact ⟨by rw [decide_eq_false (by omega), decide_eq_false (by omega)]; rfl, rfl⟩
  case rest => as_aux_lemma =>
    obtain ⟨rfl, rfl⟩ := hcut
    have hB0 : Below w.heap.size w ((w.alloc (.cells #[.int .i64 c0, .int .i64 c1, .int .i64 c2, .int .i64 c3, .int .i64 c4] 31)).alloc (.cells #[.int .i64 c0, .int .i64 c1, .int .i64 c2, .int .i64 c3, .int .i64 c4] 31)) := ((Below.refl _ _).alloc (Nat.le_refl _) _).alloc (by simp) _
    have hr0 := row8_of_below hrow rfl hB0
    go_wp2_with fail
    refine (copy_row a n cap zs _ hnil hr0).mono ?_
    rintro e w1 ⟨a', rfl, hr1, hbel⟩
    have hblk : Blk5 w1 w.heap.size 31 c0 c1 c2 c3 c4 := (hbel.block _ (by simp; omega)).trans (old_at (by simp) (new_at rfl))
    have hB1 : Below w.heap.size w w1 := hB0.trans (hbel.mono (by simp; omega))
    have hs1 : w.heap.size < w1.heap.size := by have := hbel.size; simp at this; omega
    clear hbel hB0 hr0 hrow
    obtain ⟨⟨qc0, qc1, qc2, qc3, qc4⟩, fc⟩ := hblk.facts
    go_upto_region 14 with fail
    rw [hd, hds]
    have bd : -9223372036854775808 ≤ d ∧ d ≤ 9223372036854775807 := by rw [← hd]; unfold wrap64; omega
    have bds : -9223372036854775808 ≤ ds ∧ ds ≤ 9223372036854775807 := by rw [← hds]; unfold wrap64; omega
    have HD : Hid (wrap64 (L - c1) = d) := hd
    have HDS : Hid (wrap64 (T - c0) = ds) := hds
    have HSS : Hid ((S == c2) = ss) := hss
    clear hd hds hss hlt
    go_cut [21] from 33 (fun s21 wc => s21 = .bool st ∧ wc = w1)
    case first => as_aux_lemma =>
      by_cases h1 : (d == c4) = true
      · go_wp2
        all_goals go_meet
        case rel => exact ⟨by rw [← HST.out, h1]; rfl, rfl⟩
      · go_wp2
        all_goals go_meet
        case rel => exact ⟨by rw [← HST.out, Bool.eq_false_iff.2 h1]; rfl, rfl⟩
    case rest => as_aux_lemma =>
      obtain ⟨rfl, rfl⟩ := hcut
      clear qc0 qc1 qc2 qc3 qc4 fc
      go_upto_region 15 with fail
      go_cut [22] from 33 (fun s22 w2 => s22 = .bool wh ∧ w2 = wc)
      case first => as_aux_lemma =>
        by_cases hN0 : N = 0
        · subst hN0
          cases lt
          · go_wp2
            all_goals go_meet
            case rel => exact ⟨by rw [← HWH.out]; rfl, rfl⟩
          · go_wp2
            all_goals go_meet
            case rel => exact ⟨by rw [← HWH.out]; rfl, rfl⟩
        · have hN1 : (N == 0) = false := by simpa using hN0
          have hN2 : 1 ≤ N := by omega
          clear hN0
          go_wp2
          all_goals go_meet
          case rel => exact ⟨by rw [← HWH.out, hN1]; rfl, rfl⟩
      case rest => as_aux_lemma =>
        obtain ⟨rfl, rfl⟩ := hcut
        go_upto_if 101 with fail
        go_cut [23] from 33 (fun s23 w2 => s23 = .int .u8 (fl ss false false false) ∧ w2 = wc)
        case first => as_aux_lemma =>
          cases ss
          · go_wp2; go_meet
            case rel => exact ⟨rfl, rfl⟩
          · go_wp2; go_meet
            case rel => exact ⟨int_eq (by first | exact or_ss | decide), rfl⟩
        case rest => as_aux_lemma =>
          obtain ⟨rfl, rfl⟩ := hcut
          go_upto_if 104 with fail
          go_cut [23] from 33 (fun s23 w2 => s23 = .int .u8 (fl ss st false false) ∧ w2 = wc)
          case first => as_aux_lemma =>
            cases st
            · go_wp2; go_meet
              case rel => exact ⟨rfl, rfl⟩
            · go_wp2; go_meet
              case rel => exact ⟨int_eq (or_st ss), rfl⟩
          case rest => as_aux_lemma =>
            obtain ⟨rfl, rfl⟩ := hcut
            go_upto_if 107 with fail
            go_cut [23] from 33 (fun s23 w2 => s23 = .int .u8 (fl ss st wh false) ∧ w2 = wc)
            case first => as_aux_lemma =>
              cases wh
              · go_wp2; go_meet
                case rel => exact ⟨rfl, rfl⟩
              · go_wp2; go_meet
                case rel => exact ⟨int_eq (or_wh ss st), rfl⟩
            case rest => as_aux_lemma =>
              obtain ⟨rfl, rfl⟩ := hcut
              go_upto_if 110 with fail
              go_cut [23] from 33 (fun s23 w2 => s23 = .int .u8 (fl ss st wh lt) ∧ w2 = wc)
              case first => as_aux_lemma =>
                cases lt
                · go_wp2; go_meet
                  case rel => exact ⟨rfl, rfl⟩
                · go_wp2; go_meet
                  case rel => exact ⟨int_eq (or_lt ss st wh), rfl⟩
              case rest => as_aux_lemma =>
                obtain ⟨rfl, rfl⟩ := hcut
                apply_assumption
                exact rec_mid c0 c1 c2 c3 c4 S L T N lb M d ds ss st wh lt a' n zs w wc bS bL bT bN bb bM hn bd bds HD HDS HSS HST HWH HLT hr1 hblk hB1 hs1 _ _ _ _ _ _ _ _ _ _ _ _ _ _ _ _ _ _ _ _ _ _ _ _ _ _ _ _ _ _ _ _ _ _ _ _ _ _ _ _ _ _ _ _ _ _ _ _ _ _ _ _ _ _ _ _ _ _ _ _ _ _ _ _ _ _ _ _ _ _ _ _ _ _ _ _ _ _ _ _ _ _ _ _ _ _ _ _ _ _ _ _ _ _ _ _ _ _ _ _ _ _ _ _ _ _ _ _ _ _ _ _ _ _ _ _ _ _ _ _ _ _ _ _ _ _ _ _ _ _ _ _ _ _ _ _ _ _ _ _ _ _ _ _ _ _ _ _ _ _ _ _ _ _ _ _ _ _ _ _ _ _ _ _ _ _ _ _ _ _ _ _ _
end Go.Proofs.Qxb6003262a
