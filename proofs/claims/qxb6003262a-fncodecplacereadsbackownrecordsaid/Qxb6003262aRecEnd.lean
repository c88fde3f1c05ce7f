/-
  The end of the walk of FnCodecPlaceReadsBackOwnRecord: the record is made; it is read back.
-/
import Derived.Test.Qxb6003262aRecLaw
namespace Go.Proofs.Qxb6003262a
set_option linter.unusedVariables false
open Go.RowKit

/-- The k statements at a body's head left out. -/
def tailN : Nat → Code → Code
  | 0, c => c
  | k + 1, .seq _ b => tailN k b
  | _ + 1, c => c

theorem row8_of_below {w wr : World} {a : Option Addr} {n C : Nat} {zs : List Int} (h : Row8 w a n zs) (hC : C = w.heap.size) (hB : Below C w wr) : Row8 wr a n zs := by
  obtain ⟨h1, h2, h3 | ⟨b', off', e, h3⟩⟩ := h
  · exact ⟨h1, h2, .inl h3⟩
  · exact ⟨h1, h2, .inr ⟨b', off', e, fun j hj => (hB.cell (p := ⟨b', off' + j, none⟩) (by rw [hC]; exact World.block_lt_of_cell? _ _ (h3 j hj))).trans (h3 j hj)⟩⟩

/-- The bytes that a row holds, as a list of just that length. -/
def bytesOf (n : Nat) (zs : List Int) : List Int := (List.range n).map fun j => zs[j]?.getD 0
theorem bytesOf_len (n : Nat) (zs : List Int) : (bytesOf n zs).length = n := by simp [bytesOf]
theorem bytesOf_get (n : Nat) (zs : List Int) (j : Nat) (h : j < n) : (bytesOf n zs)[j]? = some (zs[j]?.getD 0) := by simp [bytesOf, h]

theorem below3 {wc w1 w2 w3 : World} (hg1 : wc.grownBy w1 none) (hg2 : w1.grownBy w2 (some wc.heap.size)) (hg3 : w2.grownBy w3 (some wc.heap.size)) : Below wc.heap.size wc w3 :=
  (((Below.refl _ _).grown hg1 (Nat.le_refl _) (fun k hk => by cases hk)).grown hg2 (by have := hg1.size; omega) (fun k hk => by cases hk; exact Nat.le_refl _)).grown hg3 (by have := hg1.size; have := hg2.size; omega) (fun k hk => by cases hk; exact Nat.le_refl _)

set_option maxHeartbeats 2000000 in
set_option maxRecDepth 20000 in
theorem rec_end (c0 c1 c2 c3 c4 S L T N lb M d ds : Int) (ss st wh lt : Bool) (a' : Option Addr) (n : Nat) (zs : List Int) (w wc : World)
    (bS : 0 ≤ S ∧ S ≤ 9223372036854775807) (bL : -9223372036854775808 ≤ L ∧ L ≤ 9223372036854775807) (bT : -9223372036854775808 ≤ T ∧ T ≤ 9223372036854775807) (bN : 0 ≤ N ∧ N ≤ 999999999)
    (bb : -9223372036854775808 ≤ lb ∧ lb ≤ 9223372036854775807) (bM : 0 ≤ lb → 0 ≤ M ∧ M ≤ 999999999) (hn : n ≤ 65536)
    (bd : -9223372036854775808 ≤ d ∧ d ≤ 9223372036854775807) (bds : -9223372036854775808 ≤ ds ∧ ds ≤ 9223372036854775807)
    (HD : Hid (wrap64 (L - c1) = d)) (HDS : Hid (wrap64 (T - c0) = ds)) (HSS : Hid ((S == c2) = ss)) (HST : Hid (((d == c4) && (ds == c3)) = st)) (HWH : Hid (((N == 0) && (!lt || M == 0)) = wh)) (HLT : Hid (decide (0 ≤ lb) = lt))
    (hr1 : Row8 wc a' n zs) (hblk : Blk5 wc w.heap.size 31 c0 c1 c2 c3 c4) (hB1 : Below w.heap.size w wc)
    (g : Nat) (R : List Int) (hgw : w.heap.size < g) (hgc : g < wc.heap.size) (hR : R = rec4 ss st wh lt S d ds N lb M) (hRl : R.length ≤ 64) (hRb : ∀ j : Nat, 0 ≤ R[j]?.getD 0 ∧ R[j]?.getD 0 ≤ 255)
    (hown : wc.ownsRow g 5 1 (.slice (some ⟨g, 0, none⟩) R.length 64) R.length (R.map (Value.int .u8)))
    (u33 u34 u35 u36 u37 u38 u39 u40 u41 u42 u43 u44 u45 u46 u47 u48 u49 u50 u51 u52 u53 u54 u55 u56 u57 u58 u59 u60 u61 u62 u63 u64 u65 u66 u67 u68 u69 u70 u71 u72 u73 u74 u75 u76 u77 u78 u79 u80 u81 u82 u83 u84 u85 u86 u87 u88 u89 u90 u91 u92 u93 u94 u95 u96 u97 u98 u99 u100 u101 u102 u103 u104 u105 u106 u107 u108 u109 u110 u111 u112 u113 u114 u115 u116 u117 u118 u119 u120 u121 u122 u123 u124 u125 u126 u127 u128 u129 u130 u131 u132 u133 u134 u135 u136 u137 u138 u139 u140 u141 u142 u143 u144 u145 u146 u147 u148 u149 u150 u151 u152 u153 u154 u155 u156 u157 u158 u159 u160 u161 u162 u163 u164 u165 u166 u167 u168 u169 u170 u171 u172 u173 u174 u175 u176 u177 u178 u179 u180 u181 u182 u183 u184 u185 u186 u187 u188 u189 u190 u191 u192 u193 u194 u195 u196 u197 u198 u199 u200 u201 u202 u203 u204 u205 : Value) :
    Code.wp Try.prog (tailN 23 ((Try.f6.body).getD .skip)) (bodyPost Try.prog Try.f6 (fun e w' => e = .returned (.bool true) ∧ Below w.heap.size w w')) ⟨#[.agg #[.int .i64 c0, .int .i64 c1, .int .i64 c2, .int .i64 c3, .int .i64 c4], .int .i64 S, .int .i64 L, .int .i64 T, .int .i32 N, .int .i64 lb, .int .i32 M, .slice a' n n, .pointer (some ⟨w.heap.size, 0, none⟩), undef, undef, undef, undef, undef, undef, undef, .bool false, .bool lt, .int .i64 d, .int .i64 ds, .bool ss, .bool st, .bool wh, .int .u8 (fl ss st wh lt), .slice (some ⟨g, 0, none⟩) R.length 64, undef, undef, undef, undef, undef, undef, undef, undef, u33, u34, u35, u36, u37, u38, u39, u40, u41, u42, u43, u44, u45, u46, u47, u48, u49, u50, u51, u52, u53, u54, u55, u56, u57, u58, u59, u60, u61, u62, u63, u64, u65, u66, u67, u68, u69, u70, u71, u72, u73, u74, u75, u76, u77, u78, u79, u80, u81, u82, u83, u84, u85, u86, u87, u88, u89, u90, u91, u92, u93, u94, u95, u96, u97, u98, u99, u100, u101, u102, u103, u104, u105, u106, u107, u108, u109, u110, u111, u112, u113, u114, u115, u116, u117, u118, u119, u120, u121, u122, u123, u124, u125, u126, u127, u128, u129, u130, u131, u132, u133, u134, u135, u136, u137, u138, u139, u140, u141, u142, u143, u144, u145, u146, u147, u148, u149, u150, u151, u152, u153, u154, u155, u156, u157, u158, u159, u160, u161, u162, u163, u164, u165, u166, u167, u168, u169, u170, u171, u172, u173, u174, u175, u176, u177, u178, u179, u180, u181, u182, u183, u184, u185, u186, u187, u188, u189, u190, u191, u192, u193, u194, u195, u196, u197, u198, u199, u200, u201, u202, u203, u204, u205], []⟩ wc := by
  obtain ⟨i0, hi, hz0, hz1, hz2⟩ := info_parts Try.info5
  have HR : Hid (R = rec4 ss st wh lt S d ds N lb M) := hR
  obtain ⟨r, hr⟩ : ∃ r, r = R.length := ⟨_, rfl⟩
  rw [← hr] at hown hRl ⊢
  have HRr : Hid (r = R.length) := hr
  clear hR hr
  conv => arg 2; whnf
  have hnone : a' = none → n = 0 ∧ n = 0 := fun h => by
    obtain ⟨_, _, h3 | ⟨b', off', e, _⟩⟩ := hr1
    · exact ⟨h3, h3⟩
    · rw [h] at e; cases e
  have hsrc : ∀ wx : World, Below wc.heap.size wc wx → ∀ ad, a' = some ad → ∀ j u, ((bytesOf n zs).map (Value.int .u8))[j]? = some u → wx.cell? (ad.add j) = some u := by
    intro wx hb ad had j u hj
    have hjn : j < n := by
      rcases Nat.lt_or_ge j n with h | h
      · exact h
      · rw [List.getElem?_eq_none (by simp [bytesOf_len]; exact h)] at hj; cases hj
    rw [List.getElem?_map, bytesOf_get n zs j hjn] at hj
    obtain ⟨_, _, h3 | ⟨b', off', e, h4⟩⟩ := hr1
    · omega
    · rw [had] at e
      obtain rfl := Option.some.inj e
      have h5 := h4 j hjn
      have h6 : wx.cell? ⟨b', off' + j, none⟩ = some (.int .u8 (zs[j]?.getD 0)) := (hb.cell (p := ⟨b', off' + j, none⟩) (World.block_lt_of_cell? _ _ h5)).trans h5
      simp at hj; subst hj
      rw [Go.WideShapes.add_plain]; exact h6
  go_wp2_with (first | (at_make; refine wpList_make_own _ rfl (.const (.int .i64 0)) (.tmp 155) 22 rfl wc.heap.size 5 i0 (.int .u8 0) 1 Try.underlying22 hi hz0 hz1 .i64 .i64 ((r : Int) + n) (r + n) rfl rfl (by omega) (by rw [hz2]; omega) (by unfold maxLen; omega) (Nat.le_refl _) ?_; intro w1 ho1 hg1) | (at_builtin; refine wpList_append_fits _ rfl (.tmp 157) (.tmp 158) 22 rfl wc.heap.size 5 i0 1 Try.underlying22 hi hz1 wc.heap.size 0 (r + n) [] rfl ho1 ⟨g, 0, none⟩ r 64 (R.map (Value.int .u8)) rfl (by rw [List.length_map, Nat.mul_one]; exact HRr.out.symm) ((hown.kept hg1 (.inr (by simp [Value.ownBlock]))).cells rfl) (ints_oneCell _ _) (by omega) ?_; intro w2 ho2 hg2; simp only [Nat.zero_add, List.nil_append] at ho2) | (at_builtin; refine wpList_append_fits_any _ rfl (.tmp 160) (.tmp 161) 22 rfl wc.heap.size 5 i0 1 Try.underlying22 hi hz1 wc.heap.size r (r + n) (R.map (Value.int .u8)) rfl ho2 a' n n ((bytesOf n zs).map (Value.int .u8)) rfl (by simp [bytesOf_len]) hnone (hsrc _ (((Below.refl _ _).grown hg1 (Nat.le_refl _) (fun k hk => by cases hk)).grown hg2 (by have := hg1.size; omega) (fun k hk => by cases hk; exact Nat.le_refl _))) (ints_oneCell _ _) (by omega) ?_; intro w3 ho3 hg3; have hB3 := below3 hg1 hg2 hg3; obtain ⟨⟨qc0, qc1, qc2, qc3, qc4⟩, fc⟩ := (Blk5.facts ((hB3.block _ (by omega)).trans hblk))))
  have hlen : (rec4 ss st wh lt S d ds N lb M).length = r := by rw [← HR.out]; exact HRr.out.symm
  rw [← List.map_append] at ho3
  have hrow3 : Row8 w3 (some ⟨wc.heap.size, 0, none⟩) (r + n) (R ++ bytesOf n zs) := by
    refine ⟨by omega, fun j => ?_, .inr ⟨_, 0, rfl, fun j hj => ?_⟩⟩
    · rcases Nat.lt_or_ge j R.length with h | h
      · rw [List.getElem?_append_left h]; exact hRb j
      · rw [List.getElem?_append_right h]
        rcases Nat.lt_or_ge (j - R.length) n with h' | h'
        · rw [bytesOf_get n zs _ h']; exact hr1.2.1 _
        · rw [List.getElem?_eq_none (by rw [bytesOf_len]; exact h')]; simp
    · rw [Nat.zero_add, ho3.cellAt j (by omega), List.getElem?_map]
      have : j < (R ++ bytesOf n zs).length := by rw [List.length_append, bytesOf_len, ← HRr.out]; exact hj
      rw [List.getElem?_eq_getElem this]; rfl
  have hf3 : w3.cell? ⟨wc.heap.size, 0, none⟩ = some (.int .u8 (fl ss st wh lt)) := by
    have hr0 : 0 < r := by rw [← hlen]; simp [rec4, rec3, rec2, rec1, rec0]
    rw [ho3.cellAt 0 (by omega), List.getElem?_map, HR.out]; rfl
  obtain ⟨A, M', lb', i1, i2, i3, i4, i5, hRd, hAt, hAf⟩ : ∃ A M' lb' i1 i2 i3 i4 i5, Rd (R ++ bytesOf n zs) (r + n) ss st wh lt c0 c1 c2 c3 c4 S L T N A M' d ds lb' i1 i2 i3 i4 i5 r ∧ (lt = true → wrap64 (T - lb) = A ∧ M' = M) ∧ (lt = false → A = T ∧ M' = N) := by
    have hss : ss = true → S = c2 := fun h => by have := HSS.out; rw [h] at this; simpa using this
    have hst : st = true → d = c4 ∧ ds = c3 := fun h => by have := HST.out; rw [h] at this; simpa using this
    have hL : wrap64 (c1 + d) = L := by rw [← HD.out]; unfold wrap64; omega
    have hT : wrap64 (c0 + ds) = T := by rw [← HDS.out]; unfold wrap64; omega
    cases lt
    · have hwh : wh = true → N = 0 ∧ (false = true → N = 0) := fun h => by have := HWH.out; rw [h] at this; simp at this; exact ⟨this, fun h => by cases h⟩
      have e : R = rec4 ss st wh false S d ds N 0 N := by rw [HR.out]; simp [rec4]
      obtain ⟨i1, i2, i3, i4, i5, h⟩ := rd_of ss st wh false c0 c1 c2 c3 c4 S L T N T N d ds 0 (bytesOf n zs) (r + n) (by rw [bytesOf_len, ← e, ← HRr.out]) bS hss bd bds hst hL hT bN bN (by omega) hwh (fun h => by cases h) (fun _ => ⟨rfl, rfl⟩)
      rw [← e, ← HRr.out] at h
      exact ⟨T, N, 0, i1, i2, i3, i4, i5, h, (fun h => by cases h), fun _ => ⟨rfl, rfl⟩⟩
    · have hlb : 0 ≤ lb := by have := HLT.out; simpa using this
      have hwh : wh = true → N = 0 ∧ (true = true → M = 0) := fun h => by have := HWH.out; rw [h] at this; simp at this; exact ⟨this.1, fun _ => this.2⟩
      obtain ⟨i1, i2, i3, i4, i5, h⟩ := rd_of ss st wh true c0 c1 c2 c3 c4 S L T N (wrap64 (T - lb)) M d ds lb (bytesOf n zs) (r + n) (by rw [bytesOf_len, ← HR.out, ← HRr.out]) bS hss bd bds hst hL hT bN (bM hlb) ⟨hlb, bb.2⟩ hwh (fun _ => rfl) (fun h => by cases h)
      rw [← HR.out, ← HRr.out] at h
      exact ⟨wrap64 (T - lb), M, lb, i1, i2, i3, i4, i5, h, (fun _ => ⟨rfl, rfl⟩), (fun h => by cases h)⟩
  have hr0 : 0 < r := by rw [← hlen]; simp [rec4, rec3, rec2, rec1, rec0]
  have hB3' : Below w.heap.size w w3 := hB1.trans (hB3.mono (by omega))
  have hs3 : w.heap.size < w3.heap.size := by have := hB3.size; omega
  refine (callplace hRd wc.heap.size 0 (r + n) w3 hrow3 (by omega) (by omega) hf3).mono ?_
  rintro e w4 ⟨rfl, hB4⟩
  have hB5 : Below w.heap.size w w4 := hB3'.trans (hB4.mono (by omega))
  have hs4 : w.heap.size < w4.heap.size := by have := hB4.size; omega
  clear hrow3 hf3 hRd hB3' hB3 hB4 hs3 hlen ho3 hg3 ho2 hg2 ho1 hg1 hsrc hnone qc0 qc1 qc2 qc3 qc4 fc hblk hr1 hown hRb hB1
  go_upto_if 173 with fail
  go_cut [29, 30] from 33 (fun s29 s30 wx => s29 = .int .i64 A ∧ s30 = .int .i32 M' ∧ wx = ((w4.alloc (.cells #[.int .i64 T, .int .i64 L, .int .i64 S, .int .i64 ds, .int .i64 d] 31)).alloc (.cells #[.int .i64 S, .int .i64 L, .int .i64 T, .int .i32 N, .int .i64 A, .int .i32 M', .int .u8 (fl ss st wh lt)] 35)))
  case first =>
    cases lt
    · obtain ⟨rfl, rfl⟩ := hAf rfl
      go_wp2
      go_meet
      case rel => exact ⟨rfl, rfl, rfl⟩
    · obtain ⟨rfl, rfl⟩ := hAt rfl
      go_wp2
      go_meet
      case rel => exact ⟨rfl, rfl, rfl⟩
  case rest =>
    obtain ⟨rfl, rfl, rfl⟩ := hcut
    clear hAt hAf
    go_wp2
    go_ret
    exact ⟨rfl, (((hB5.alloc (by omega) _).alloc (by simp; omega) _).alloc (by simp; omega) _).alloc (by simp; omega) _⟩
end Go.Proofs.Qxb6003262a
