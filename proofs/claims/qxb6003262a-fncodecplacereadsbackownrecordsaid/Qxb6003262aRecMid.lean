/-
  The middle of the walk of FnCodecPlaceReadsBackOwnRecord: the record is written.
-/
import Derived.Test.Qxb6003262aRecEnd
namespace Go.Proofs.Qxb6003262a
set_option linter.unusedVariables false
open Go.RowKit

/-- The record as far as it is written. -/
structure Wrote (w0 : World) (g : Nat) (R : List Int) (lim : Nat) (s24 : Value) (wx : World) : Prop where
  val : s24 = .slice (some ⟨g, 0, none⟩) R.length 64
  own : wx.ownsRow g 5 1 (.slice (some ⟨g, 0, none⟩) R.length 64) R.length (R.map (Value.int .u8))
  bel : Below g w0 wx
  siz : g < wx.heap.size
  len : R.length ≤ lim
  bd : ∀ x ∈ R, 0 ≤ x ∧ x ≤ 255

theorem Wrote.step {w0 : World} {g : Nat} {R : List Int} {lim : Nat} {s24 : Value} {wx wy : World} (h : Wrote w0 g R lim s24 wx) (v : Nat) (hv : v < 18446744073709551616)
    (ho : wy.ownsRow g 5 1 (.slice (some ⟨g, 0, none⟩) (R.length + (enc 9 v).length) 64) (R.length + (enc 9 v).length) (R.map (Value.int .u8) ++ (enc 9 v).map (Value.int .u8))) (hb : Below g wx wy) :
    Wrote w0 g (R ++ enc 9 v) (lim + 10) (.slice (some ⟨g, 0, none⟩) (R.length + (enc 9 v).length) 64) wy := by
  have hl := (enc_len 9 v).2
  have h10 : (128 : Nat) ^ (9 + 1) = 1180591620717411303424 := by decide
  refine ⟨by rw [List.length_append], by rw [List.length_append, List.map_append]; exact ho, h.bel.trans hb, by have := h.siz; have := hb.size; omega, by have := h.len; rw [List.length_append]; omega, fun x hx => ?_⟩
  rcases List.mem_append.1 hx with hx | hx
  · exact h.bd x hx
  · exact enc_bd 9 v (by omega) x hx
theorem Wrote.more {w0 : World} {g : Nat} {R : List Int} {lim lim' : Nat} {s24 : Value} {wx : World} (h : Wrote w0 g R lim s24 wx) (hl : lim ≤ lim') : Wrote w0 g R lim' s24 wx :=
  ⟨h.val, h.own, h.bel, h.siz, by have := h.len; omega, h.bd⟩

theorem fl_bd (ss st wh lt : Bool) : 0 ≤ fl ss st wh lt ∧ fl ss st wh lt ≤ 255 := by revert ss st wh lt; decide

set_option maxHeartbeats 2000000 in
set_option maxRecDepth 20000 in
theorem rec_mid (c0 c1 c2 c3 c4 S L T N lb M d ds : Int) (ss st wh lt : Bool) (a' : Option Addr) (n : Nat) (zs : List Int) (w v0 : World)
    (bS : 0 ≤ S ∧ S ≤ 9223372036854775807) (bL : -9223372036854775808 ≤ L ∧ L ≤ 9223372036854775807) (bT : -9223372036854775808 ≤ T ∧ T ≤ 9223372036854775807) (bN : 0 ≤ N ∧ N ≤ 999999999)
    (bb : -9223372036854775808 ≤ lb ∧ lb ≤ 9223372036854775807) (bM : 0 ≤ lb → 0 ≤ M ∧ M ≤ 999999999) (hn : n ≤ 65536)
    (bd : -9223372036854775808 ≤ d ∧ d ≤ 9223372036854775807) (bds : -9223372036854775808 ≤ ds ∧ ds ≤ 9223372036854775807)
    (HD : Hid (wrap64 (L - c1) = d)) (HDS : Hid (wrap64 (T - c0) = ds)) (HSS : Hid ((S == c2) = ss)) (HST : Hid (((d == c4) && (ds == c3)) = st)) (HWH : Hid (((N == 0) && (!lt || M == 0)) = wh)) (HLT : Hid (decide (0 ≤ lb) = lt))
    (hr1 : Row8 v0 a' n zs) (hblk : Blk5 v0 w.heap.size 31 c0 c1 c2 c3 c4) (hB1 : Below w.heap.size w v0) (hs1 : w.heap.size < v0.heap.size)
    (u33 u34 u35 u36 u37 u38 u39 u40 u41 u42 u43 u44 u45 u46 u47 u48 u49 u50 u51 u52 u53 u54 u55 u56 u57 u58 u59 u60 u61 u62 u63 u64 u65 u66 u67 u68 u69 u70 u71 u72 u73 u74 u75 u76 u77 u78 u79 u80 u81 u82 u83 u84 u85 u86 u87 u88 u89 u90 u91 u92 u93 u94 u95 u96 u97 u98 u99 u100 u101 u102 u103 u104 u105 u106 u107 u108 u109 u110 u111 u112 u113 u114 u115 u116 u117 u118 u119 u120 u121 u122 u123 u124 u125 u126 u127 u128 u129 u130 u131 u132 u133 u134 u135 u136 u137 u138 u139 u140 u141 u142 u143 u144 u145 u146 u147 u148 u149 u150 u151 u152 u153 u154 u155 u156 u157 u158 u159 u160 u161 u162 u163 u164 u165 u166 u167 u168 u169 u170 u171 u172 u173 u174 u175 u176 u177 u178 u179 u180 u181 u182 u183 u184 u185 u186 u187 u188 u189 u190 u191 u192 u193 u194 u195 u196 u197 u198 u199 u200 u201 u202 u203 u204 u205 : Value) :
    Code.wp Try.prog (tailN 17 ((Try.f6.body).getD .skip)) (bodyPost Try.prog Try.f6 (fun e w' => e = .returned (.bool true) ∧ Below w.heap.size w w')) ⟨#[.agg #[.int .i64 c0, .int .i64 c1, .int .i64 c2, .int .i64 c3, .int .i64 c4], .int .i64 S, .int .i64 L, .int .i64 T, .int .i32 N, .int .i64 lb, .int .i32 M, .slice a' n n, .pointer (some ⟨w.heap.size, 0, none⟩), undef, undef, undef, undef, undef, undef, undef, .bool false, .bool lt, .int .i64 d, .int .i64 ds, .bool ss, .bool st, .bool wh, .int .u8 (fl ss st wh lt), undef, undef, undef, undef, undef, undef, undef, undef, undef, u33, u34, u35, u36, u37, u38, u39, u40, u41, u42, u43, u44, u45, u46, u47, u48, u49, u50, u51, u52, u53, u54, u55, u56, u57, u58, u59, u60, u61, u62, u63, u64, u65, u66, u67, u68, u69, u70, u71, u72, u73, u74, u75, u76, u77, u78, u79, u80, u81, u82, u83, u84, u85, u86, u87, u88, u89, u90, u91, u92, u93, u94, u95, u96, u97, u98, u99, u100, u101, u102, u103, u104, u105, u106, u107, u108, u109, u110, u111, u112, u113, u114, u115, u116, u117, u118, u119, u120, u121, u122, u123, u124, u125, u126, u127, u128, u129, u130, u131, u132, u133, u134, u135, u136, u137, u138, u139, u140, u141, u142, u143, u144, u145, u146, u147, u148, u149, u150, u151, u152, u153, u154, u155, u156, u157, u158, u159, u160, u161, u162, u163, u164, u165, u166, u167, u168, u169, u170, u171, u172, u173, u174, u175, u176, u177, u178, u179, u180, u181, u182, u183, u184, u185, u186, u187, u188, u189, u190, u191, u192, u193, u194, u195, u196, u197, u198, u199, u200, u201, u202, u203, u204, u205], []⟩ v0 := by
  obtain ⟨i0, hi, hz0, hz1, hz2⟩ := info_parts Try.info5
  conv => arg 2; whnf
  go_upto_if 119 with (first | (at_make; refine wpList_make_own _ rfl (.const (.int .i64 0)) (.const (.int .i64 64)) 22 rfl v0.heap.size 5 i0 (.int .u8 0) 1 Try.underlying22 hi hz0 hz1 .i64 .i64 64 64 rfl rfl rfl (by rw [hz2]; omega) (by unfold maxLen; omega) (Nat.le_refl _) ?_; intro w1 ho1 hg1) | (at_builtin; refine wpList_append_fits _ rfl (.tmp 114) (.tmp 116) 22 rfl v0.heap.size 5 i0 1 Try.underlying22 hi hz1 v0.heap.size 0 64 [] rfl (ho1.alloc _) ⟨w1.heap.size, 0, none⟩ 1 1 [.int .u8 (fl ss st wh lt)] rfl rfl (cell_one_new _ _ _) (by intro u hu; simp at hu; subst hu; rfl) (by omega) ?_; intro w2 ho2 hg2))
  obtain ⟨g, hg⟩ : ∃ g, g = v0.heap.size := ⟨_, rfl⟩
  have HW0 : Wrote v0 g (rec0 ss st wh lt) 1 (.slice (some ⟨g, 0, none⟩) 1 64) w2 := by
    rw [hg]
    have hb1 : Below v0.heap.size v0 w1 := (Below.refl _ _).grown hg1 (Nat.le_refl _) (fun k hk => by cases hk)
    have hb2 : Below v0.heap.size v0 w2 := (hb1.alloc hb1.size _).grown hg2 (by have := hb1.size; simp; omega) (fun k hk => by cases hk; exact Nat.le_refl _)
    refine ⟨rfl, by simpa [rec0] using ho2, hb2, (ho2.lt _ rfl).2, by simp [rec0], fun x hx => ?_⟩
    simp only [rec0, List.mem_singleton] at hx
    subst hx
    exact fl_bd _ _ _ _
  rw [← hg]
  have HG : Hid (g = v0.heap.size) := hg
  have hgw : w.heap.size < g := by omega
  clear ho1 hg1 ho2 hg2 hg
  go_cut [24] from 33 (fun s24 wx => Wrote v0 g (rec1 ss st wh lt S) 11 s24 wx)
  case first =>
    cases ss
    · obtain ⟨s, rfl⟩ : ∃ s : Nat, S = (s : Int) := ⟨S.toNat, by omega⟩
      go_wp2_with fail
      refine (app_any g 1 64 [.int .u8 (fl false st wh lt)] s _ (by omega) (by omega) (by omega) HW0.siz HW0.own).mono ?_
      rintro e w' ⟨rfl, ho, hb⟩
      have HS := HW0.step s (by omega) ho hb
      clear ho hb
      go_wp2_with fail
      go_meet
      case rel => exact HS
    · go_wp2
      go_meet
      case rel => exact (HW0.more (by omega))
  case rest => as_aux_lemma =>
    obtain ⟨R, eR⟩ : ∃ R, R = rec1 ss st wh lt S := ⟨_, rfl⟩
    rw [← eR] at hcut
    have ER : Hid (R = rec1 ss st wh lt S) := eR
    have hv := hcut.val
    have HW := hcut
    subst hv
    clear hcut HW0 eR
    have hl := HW.len
    have hz := HW.siz
    have ho := HW.own
    go_upto_if 125 with fail
    go_cut [24] from 33 (fun s24 wx => Wrote v0 g (rec2 ss st wh lt S d ds) 31 s24 wx)
    case first => as_aux_lemma =>
      cases st
      · go_wp2_with fail
        refine (zig_any d _ bd.1 bd.2).mono ?_
        rintro e w' ⟨rfl, rfl⟩
        go_wp2_with fail
        refine (app_any g R.length 64 _ (zz d) _ (zz_lt bd.1 bd.2) (by omega) (by omega) hz ho).mono ?_
        rintro e w' ⟨rfl, ho1, hb1⟩
        have HS := HW.step (zz d) (zz_lt bd.1 bd.2) ho1 hb1
        clear ho1 hb1
        go_wp2_with fail
        refine (zig_any ds _ bds.1 bds.2).mono ?_
        rintro e w'' ⟨rfl, rfl⟩
        go_wp2_with fail
        have hl2 := (enc_len 9 (zz d)).2
        refine (app_any g (R.length + (enc 9 (zz d)).length) 64 _ (zz ds) _ (zz_lt bds.1 bds.2) (by omega) (by omega) HS.siz (by have h := HS.own; rw [List.length_append] at h; exact h)).mono ?_
        rintro e w' ⟨rfl, ho1, hb1⟩
        have HS2 := HS.step (zz ds) (zz_lt bds.1 bds.2) (by rw [List.length_append]; exact ho1) hb1
        clear ho1 hb1 hl2
        go_wp2_with fail
        go_meet
        case rel =>
          rw [List.length_append, List.append_assoc, ER.out] at HS2
          rw [ER.out]
          exact HS2
      · go_wp2
        go_meet
        case rel =>
          have e : rec2 ss true wh lt S d ds = R := by rw [ER.out]; simp [rec2]
          rw [e]; exact HW.more (by omega)
    case rest => as_aux_lemma =>
      clear HW hl hz ho ER
      obtain ⟨R, eR⟩ : ∃ R, R = rec2 ss st wh lt S d ds := ⟨_, rfl⟩
      rw [← eR] at hcut
      have ER : Hid (R = rec2 ss st wh lt S d ds) := eR
      have hv := hcut.val
      have HW := hcut
      subst hv
      clear hcut eR
      have hl := HW.len
      have hz := HW.siz
      have ho := HW.own
      go_upto_if 135 with fail
      go_cut [24] from 33 (fun s24 wx => Wrote v0 g (rec3 ss st wh lt S d ds N) 41 s24 wx)
      case first => as_aux_lemma =>
        cases wh
        · obtain ⟨s, rfl⟩ : ∃ s : Nat, N = (s : Int) := ⟨N.toNat, by omega⟩
          go_wp2_with fail
          refine (app_any g R.length 64 _ s _ (by omega) (by omega) (by omega) hz ho).mono ?_
          rintro e w' ⟨rfl, ho1, hb1⟩
          have HS := HW.step s (by omega) ho1 hb1
          clear ho1 hb1
          go_wp2_with fail
          go_meet
          case rel =>
            rw [ER.out] at HS
            rw [ER.out]
            exact HS
        · go_wp2
          go_meet
          case rel =>
            have e : rec3 ss st true lt S d ds N = R := by rw [ER.out]; simp [rec3]
            rw [e]; exact HW.more (by omega)
      case rest => as_aux_lemma =>
        clear HW hl hz ho ER
        obtain ⟨R, eR⟩ : ∃ R, R = rec3 ss st wh lt S d ds N := ⟨_, rfl⟩
        rw [← eR] at hcut
        have ER : Hid (R = rec3 ss st wh lt S d ds N) := eR
        have hv := hcut.val
        have HW := hcut
        subst hv
        clear hcut eR
        have hl := HW.len
        have hz := HW.siz
        have ho := HW.own
        go_upto_if 140 with fail
        go_cut [24] from 33 (fun s24 wx => Wrote v0 g (rec4 ss st wh lt S d ds N lb M) 61 s24 wx)
        case first => as_aux_lemma =>
          cases lt
          · go_wp2
            go_meet
            case rel =>
              have e : rec4 ss st wh false S d ds N lb M = R := by rw [ER.out]; simp [rec4]
              rw [e]; exact HW.more (by omega)
          · have hlb : 0 ≤ lb := by have := HLT.out; simpa using this
            have bM' := bM hlb
            obtain ⟨s, rfl⟩ : ∃ s : Nat, lb = (s : Int) := ⟨lb.toNat, by omega⟩
            obtain ⟨m, rfl⟩ : ∃ s : Nat, M = (s : Int) := ⟨M.toNat, by omega⟩
            clear HWH HLT bM
            cases wh
            · go_wp2_with fail
              refine (app_any g R.length 64 _ s _ (by omega) (by omega) (by omega) hz ho).mono ?_
              rintro e w' ⟨rfl, ho1, hb1⟩
              have HS := HW.step s (by omega) ho1 hb1
              clear ho1 hb1
              go_wp2_with fail
              have hl2 := (enc_len 9 s).2
              refine (app_any g (R.length + (enc 9 s).length) 64 _ m _ (by omega) (by omega) (by omega) HS.siz (by have h := HS.own; rw [List.length_append] at h; exact h)).mono ?_
              rintro e w' ⟨rfl, ho1, hb1⟩
              have HS2 := HS.step m (by omega) (by rw [List.length_append]; exact ho1) hb1
              clear ho1 hb1 hl2
              go_wp2_with fail
              go_meet
              case rel =>
                rw [List.length_append, List.append_assoc, ER.out] at HS2
                rw [ER.out]
                exact HS2
            · go_wp2_with fail
              refine (app_any g R.length 64 _ s _ (by omega) (by omega) (by omega) hz ho).mono ?_
              rintro e w' ⟨rfl, ho1, hb1⟩
              have HS := HW.step s (by omega) ho1 hb1
              clear ho1 hb1
              go_wp2_with fail
              go_meet
              case rel =>
                have e : rec4 ss st true true S d ds N s m = R ++ enc 9 s := by rw [ER.out]; simp [rec4]
                rw [e]; exact HS.more (by omega)
        case rest => as_aux_lemma =>
          clear HW hl hz ho ER
          obtain ⟨R, eR⟩ : ∃ R, R = rec4 ss st wh lt S d ds N lb M := ⟨_, rfl⟩
          rw [← eR] at hcut
          have hv := hcut.val
          subst hv
          have hB2 : Below v0.heap.size v0 wc := by rw [← HG.out]; exact hcut.bel
          have hRb : ∀ j : Nat, 0 ≤ R[j]?.getD 0 ∧ R[j]?.getD 0 ≤ 255 := by
            intro j
            cases h : R[j]? with
            | none => simp
            | some x => exact hcut.bd x (List.mem_of_getElem? h)
          apply_assumption
          exact rec_end c0 c1 c2 c3 c4 S L T N lb M d ds ss st wh lt a' n zs w wc bS bL bT bN bb bM hn bd bds HD HDS HSS HST HWH HLT (row8_of_below hr1 rfl hB2) ((hcut.bel.block _ hgw).trans hblk) (hB1.trans (hB2.mono (by omega))) g R hgw hcut.siz eR (by have := hcut.len; omega) hRb hcut.own _ _ _ _ _ _ _ _ _ _ _ _ _ _ _ _ _ _ _ _ _ _ _ _ _ _ _ _ _ _ _ _ _ _ _ _ _ _ _ _ _ _ _ _ _ _ _ _ _ _ _ _ _ _ _ _ _ _ _ _ _ _ _ _ _ _ _ _ _ _ _ _ _ _ _ _ _ _ _ _ _ _ _ _ _ _ _ _ _ _ _ _ _ _ _ _ _ _ _ _ _ _ _ _ _ _ _ _ _ _ _ _ _ _ _ _ _ _ _ _ _ _ _ _ _ _ _ _ _ _ _ _ _ _ _ _ _ _ _ _ _ _ _ _ _ _ _ _ _ _ _ _ _ _ _ _ _ _ _ _ _ _ _ _ _ _ _ _ _ _ _ _ _
end Go.Proofs.Qxb6003262a
