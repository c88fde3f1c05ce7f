/-
  The walk of zzSortTurns.
-/
import Derived.Test.Qxb6003262aZDown
import Derived.Test.Qxb6003262aSortPlain
namespace Go.Proofs.Qxb6003262a
set_option linter.unusedVariables false
open Go.RowKit

theorem gt_take (q : List Tn) (m j : Nat) (h : j < m) : gt (q.take m) j = gt q j := by unfold gt; rw [List.getElem?_take_of_lt h]
theorem gt_drop (q : List Tn) (m j : Nat) : gt (q.drop m) j = gt q (m + j) := by unfold gt; rw [List.getElem?_drop]
theorem TRow.take {w : World} {b off : Nat} {q : List Tn} (h : TRow w b off q) (m : Nat) (hm : m ≤ q.length) : TRow w b off (q.take m) := by
  intro j hj
  have hj' : j < m := by simp at hj; omega
  rw [gt_take q m j hj']
  exact h j (by omega)
theorem TRow.drop {w : World} {b off : Nat} {q : List Tn} (h : TRow w b off q) (m : Nat) : TRow w b (off + m * 4) (q.drop m) := by
  intro j hj
  simp at hj
  rw [gt_drop, show off + m * 4 + j * 4 = off + (m + j) * 4 by omega]
  exact h (m + j) (by omega)
theorem ownT_of {w : World} {base g n : Nat} {p : List Tn} (h : w.ownsRow base 45 4 (.slice (some ⟨g, 0, none⟩) n n) n (p.flatMap tcells)) : OwnT w g 45 p := by
  rcases h.2 with ⟨h', _⟩ | ⟨g', cap', cur, h', _, hg, _, _, hs, ht⟩
  · simp at h'
  · simp only [Value.slice.injEq, Option.some.injEq, Addr.mk.injEq, and_true, true_and] at h'
    obtain ⟨rfl, rfl⟩ := h'
    rw [List.take_of_length_le (by simp [hs])] at ht
    unfold OwnT
    rw [hg, ← ht]
theorem mrg_yes {f : Nat} {A B : List Tn} {i j : Nat} (hi : i < A.length) (hj : j < B.length) (hf : (A.length - i) + (B.length - j) ≤ f) (h : bef (gt B j) (gt A i) = true) :
    ∃ f', (A.length - i) + (B.length - (j + 1)) ≤ f' ∧ mrg f (A.drop i) (B.drop j) = gt B j :: mrg f' (A.drop i) (B.drop (j + 1)) := by
  obtain ⟨m, rfl⟩ : ∃ m, f = m + 1 := ⟨f - 1, by omega⟩
  refine ⟨m, by omega, ?_⟩
  have e1 : A.drop i = gt A i :: A.drop (i + 1) := by rw [List.drop_eq_getElem_cons hi]; unfold gt; rw [List.getElem?_eq_getElem hi]; rfl
  have e2 : B.drop j = gt B j :: B.drop (j + 1) := by rw [List.drop_eq_getElem_cons hj]; unfold gt; rw [List.getElem?_eq_getElem hj]; rfl
  rw [e1, e2, mrg, if_pos h]
theorem mrg_no {f : Nat} {A B : List Tn} {i j : Nat} (hi : i < A.length) (hj : j < B.length) (hf : (A.length - i) + (B.length - j) ≤ f) (h : bef (gt B j) (gt A i) = false) :
    ∃ f', (A.length - (i + 1)) + (B.length - j) ≤ f' ∧ mrg f (A.drop i) (B.drop j) = gt A i :: mrg f' (A.drop (i + 1)) (B.drop j) := by
  obtain ⟨m, rfl⟩ : ∃ m, f = m + 1 := ⟨f - 1, by omega⟩
  refine ⟨m, by omega, ?_⟩
  have e1 : A.drop i = gt A i :: A.drop (i + 1) := by rw [List.drop_eq_getElem_cons hi]; unfold gt; rw [List.getElem?_eq_getElem hi]; rfl
  have e2 : B.drop j = gt B j :: B.drop (j + 1) := by rw [List.drop_eq_getElem_cons hj]; unfold gt; rw [List.getElem?_eq_getElem hj]; rfl
  rw [e1, e2, mrg, if_neg (by rw [h]; simp)]
theorem mrg_end {f : Nat} {A B : List Tn} {i j : Nat} (h : ¬ i < A.length ∨ ¬ j < B.length) : mrg f (A.drop i) (B.drop j) = A.drop i ++ B.drop j := by
  rcases h with h | h
  · rw [List.drop_of_length_le (by omega : A.length ≤ i), mrg_nil_left]; rfl
  · rw [List.drop_of_length_le (by omega : B.length ≤ j), mrg_nil_right]; simp

/-- What the merge knows. -/
structure MS (w0 : World) (g ga gb n i j : Nat) (A B o : List Tn) (wr : World) : Prop where
  own : wr.ownsRow g 45 4 (.slice (some ⟨g, 0, none⟩) (i + j) n) (i + j) (o.flatMap tcells)
  oa : OwnT wr ga 45 A
  ob : OwnT wr gb 45 B
  bel : Below w0.heap.size w0 wr
theorem MS.below {w0 : World} {g ga gb n i j : Nat} {A B o : List Tn} {wr wx : World} (h : MS w0 g ga gb n i j A B o wr) (hb : Below wr.heap.size wr wx) : MS w0 g ga gb n i j A B o wx := by
  refine ⟨?_, (hb.block ga h.oa.lt).trans h.oa, (hb.block gb h.ob.lt).trans h.ob, h.bel.trans (hb.mono h.bel.size)⟩
  exact h.own.kept ⟨hb.os, hb.tape, hb.output, hb.size, fun k hk _ => hb.block k hk⟩ (row := none) (.inr (by simp [Value.ownBlock]))
theorem MS.app {w0 : World} {g ga gb n i j i' j' : Nat} {A B o : List Tn} {wr w1 : World} (t : Tn) (O : Obj) (h : MS w0 g ga gb n i j A B o wr) (hij : i' + j' = i + j + 1) (ha : ga < g) (hb : gb < g) (hg : g < wr.heap.size) (hw : w0.heap.size ≤ g)
    (ho : w1.ownsRow g 45 4 (.slice (some ⟨g, 0, none⟩) (i + j + 1) n) (i + j + 1) (o.flatMap tcells ++ tcells t)) (hgr : (wr.alloc O).grownBy w1 (some g)) : MS w0 g ga gb n i' j' A B (o ++ [t]) w1 := by
  have hk : ∀ k, k < g → w1.heap[k]? = wr.heap[k]? := fun k hk => (hgr.block k (by simp; omega) (by simp; omega)).trans (Below.heap_alloc wr O k (by omega))
  refine ⟨by rw [hij, List.flatMap_append]; simpa using ho, (hk ga ha).trans h.oa, (hk gb hb).trans h.ob, ?_⟩
  exact (h.bel.alloc (by omega) O).grown hgr (by simp; omega) (fun k hk => by cases hk; exact hw)

theorem OwnT.rowFrom {w : World} {g : Nat} {ty : TypeId} {q : List Tn} (h : OwnT w g ty q) (i : Nat) : TRow w g (i * 4) (q.drop i) := by
  have := h.row.drop i
  rwa [Nat.zero_add] at this

theorem cellT_new (w : World) (t : Tn) : ∀ j u, (tcells t)[j]? = some u → (w.alloc (.cells #[.int .i64 t.s, .int .i32 t.n, .int .i64 t.r, .int .i64 t.u] 45)).cell? ((⟨w.heap.size, 0, none⟩ : Addr).add j) = some u := by
  intro j u hj
  rw [Go.WideShapes.add_plain, Nat.zero_add, World.cell?_alloc_new]
  simpa [tcells] using hj
theorem oneT (t : Tn) : ∀ u ∈ tcells t, u.oneCell' = true := fun u hu => tcells_one [t] u (by simpa using hu)

set_option maxHeartbeats 400000 in
theorem sort_small (a : Option Addr) (n c : Nat) (q : List Tn) (w : World) (hsm : n ≤ 1) (hT : TIn w a n q) (hnil : a = none → c = 0) :
    Calls Try.prog 27 #[.slice a n c] w fun e w' => ∃ g p, e = .returned (.slice (some ⟨g, 0, none⟩) n n) ∧ OwnT w' g 45 p ∧ p.Perm q ∧ p.Pairwise Le ∧ Below w.heap.size w w' := by
  obtain ⟨i0, hi0, hz0, hz1, hz2⟩ := info_parts Try.info45
  have hS : q.Pairwise Le := by
    have := hT.1
    match q, this with
    | [], _ => exact List.Pairwise.nil
    | [x], _ => simp
    | x :: y :: r, h => simp at h; omega
  go_enter Try.func27, Try.ntmps27
  go_wp2_with (first | (at_make; refine wpList_make_full _ rfl (.tmp 14) (.tmp 14) 38 rfl w.heap.size 45 i0 _ 4 Try.underlying38 hi0 hz0 hz1 .i64 .i64 n n n rfl rfl rfl rfl (by rw [hz2]; omega) (by unfold maxLen; omega) (Nat.le_refl _) ?_; intro w1 hown hgrow) | (refine wpList_copyT rfl (.tmp 16) (.tmp 17) rfl w.heap.size n c a q (List.replicate n t0) rfl rfl (hT.below (below_grown0 hgrow)) hnil (ownT_made hown) (by simp) w.heap.size w (below_grown0 hgrow) (Nat.le_refl _) ?_; intro wx HOx hBx))
  go_ret
  exact ⟨_, q, rfl, HOx, List.Perm.refl _, hS, hBx⟩

set_option maxHeartbeats 2000000 in
theorem sort_any : ∀ (N : Nat) (a : Option Addr) (n c : Nat) (q : List Tn) (w : World), n ≤ N → n ≤ c → c ≤ 9223372036854775807 → TIn w a n q → (a = none → c = 0) →
    Calls Try.prog 27 #[.slice a n c] w fun e w' => ∃ g p, e = .returned (.slice (some ⟨g, 0, none⟩) n n) ∧ OwnT w' g 45 p ∧ p.Perm q ∧ p.Pairwise Le ∧ Below w.heap.size w w' := by
  intro N
  induction N with
  | zero =>
    intro a n c q w hN hc hcm hT hnil
    exact sort_small a n c q w (by omega) hT hnil
  | succ N ih =>
    intro a n c q w hN hc hcm hT hnil
    have IH : Hid _ := ih
    clear ih
    obtain ⟨i0, hi0, hz0, hz1, hz2⟩ := info_parts Try.info45
    have hn := hT.2.1
    have HQ : Hid (q.length = n) := hT.1
    by_cases hsm : n ≤ 1
    · exact sort_small a n c q w hsm hT hnil
    · obtain ⟨_, _, _, hr⟩ := hT
      obtain hz | ⟨b, off, rfl, hr⟩ := hr
      · omega
      clear hnil
      have hdec : decide ((n : Int) ≤ 1) = false := decide_eq_false (by omega)
      go_enter Try.func27, Try.ntmps27
      go_wp2_with fail
      obtain ⟨m, hm⟩ : ∃ m, m = n / 2 := ⟨_, rfl⟩
      have hmI : (n : Int) / 2 = (m : Int) := by omega
      rw [← hm, hmI]
      have hm1 : 1 ≤ m := by omega
      have hm2 : m + 1 ≤ n := by omega
      have hm3 : m ≤ N := by omega
      have hm4 : n - m ≤ N := by omega
      clear hm hmI
      have hql := HQ.out
      have hTa : TIn w (some ⟨b, off, none⟩) m (q.take m) := ⟨by simp; omega, by omega, (fun h => by cases h), .inr ⟨b, off, rfl, hr.take m (by omega)⟩⟩
      have hTb : TIn w (some ⟨b, off + m * 4, none⟩) (n - m) (q.drop m) := ⟨by simp; omega, by omega, (fun h => by cases h), .inr ⟨b, off + m * 4, rfl, hr.drop m⟩⟩
      clear hql hr
      refine (IH.out (some ⟨b, off, none⟩) m c (q.take m) w hm3 (by omega) hcm hTa (fun h => by cases h)).mono ?_
      rintro e w1 ⟨ga, A, rfl, HA, pA, sA, hB1⟩
      have hTb1 := hTb.below hB1
      clear hTa hTb
      go_wp2_with fail
      refine (IH.out (some ⟨b, off + m * 4, none⟩) (n - m) (c - m) (q.drop m) w1 hm4 (by omega) (by omega) hTb1 (fun h => by cases h)).mono ?_
      rintro e w2 ⟨gb, B, rfl, HB2, pB, sB, hB2⟩
      have HA2 : OwnT w2 ga 45 A := (hB2.block ga HA.lt).trans HA
      have hBw : Below w.heap.size w w2 := hB1.trans (hB2.mono hB1.size)
      have lA : A.length = m := by have := pA.length_eq; have h2 := HQ.out; simp at this; omega
      have lB : B.length = n - m := by have := pB.length_eq; have h2 := HQ.out; simp at this; omega
      have PQ : Hid ((A ++ B).Perm q) := by
        have := pA.append pB
        rw [List.take_append_drop] at this
        exact this
      clear hTb1 hB1 hB2 HA IH pA pB
      go_wp2_with (at_make; refine wpList_make_own _ rfl (.const (.int .i64 0)) (.tmp 32) 38 rfl w2.heap.size 45 i0 _ 4 Try.underlying38 hi0 hz0 hz1 .i64 .i64 n n rfl rfl rfl (by rw [hz2]; omega) (by unfold maxLen; omega) (Nat.le_refl _) ?_; intro w3 o3 r3)
      have b3 := below_grown0 r3
      have hga := HA2.lt
      have hgb := HB2.lt
      obtain ⟨g, eg⟩ : ∃ g, g = w2.heap.size := ⟨_, rfl⟩
      have hwg : w.heap.size ≤ g := by rw [eg]; exact hBw.size
      have hM0 : MS w g ga gb n 0 0 A B [] w3 := by
        rw [eg]
        exact ⟨by simpa using o3, (b3.block ga hga).trans HA2, (b3.block gb hgb).trans HB2, hBw.trans (b3.mono hBw.size)⟩
      have hg3 : g < w3.heap.size := by rw [eg]; exact (o3.lt _ rfl).2
      rw [← eg] at hga hgb ⊢
      clear eg o3 r3 b3 HA2 HB2 hBw
      have HLA : Hid (A.length = m) := lA
      have HLB : Hid (B.length = n - m) := lB
      clear lA lB
      go_loopw [7, 8, 9] (fun s7 s8 s9 wr => ∃ (f i j : Nat) (o : List Tn), i ≤ m ∧ j ≤ n - m ∧ (m - i) + (n - m - j) ≤ f ∧ s7 = .slice (some ⟨g, 0, none⟩) (i + j) n ∧ s8 = .int .i64 (i : Int) ∧ s9 = .int .i64 (j : Int) ∧ MS w g ga gb n i j A B o wr ∧ g < wr.heap.size ∧ Hid (mrg n A B = o ++ mrg f (A.drop i) (B.drop j))) (fun _ s8 s9 _ => n - (intOf s8).toNat - (intOf s9).toNat)
      case atStart => exact ⟨n, 0, 0, [], by omega, by omega, by omega, rfl, rfl, rfl, hM0, hg3, rfl⟩
      case round =>
        clear hM0 hg3
        obtain ⟨f, i, j, o, him, hjn, hf, rfl, rfl, rfl, hM, hgr, HE⟩ := hrel
        by_cases h1 : i < m ∧ j < n - m
        · obtain ⟨h1, h2⟩ := h1
          obtain ⟨e0, e1, e2, e3⟩ := hM.ob.at j (by rw [HLB.out]; exact h2)
          obtain ⟨f0, f1, f2, f3⟩ := hM.oa.at i (by rw [HLA.out]; exact h1)
          have la := hM.oa.lt
          have lb := hM.ob.lt
          have iI : (i : Int) < (m : Int) := by omega
          have iI0 : (0 : Int) ≤ (i : Int) := by omega
          have jI : (j : Int) < ((n - m : Nat) : Int) := by omega
          have jI0 : (0 : Int) ≤ (j : Int) := by omega
          by_cases h3 : bef (gt B j) (gt A i) = true
          · go_upto_region 12 with fail
            go_region_held3 (fun w' => w'.cell? ⟨gb, j * 4, none⟩ = some (.int .i64 (gt B j).s) ∧ w'.cell? ⟨gb, j * 4 + 1, none⟩ = some (.int .i32 (gt B j).n) ∧ w'.cell? ⟨gb, j * 4 + 2, none⟩ = some (.int .i64 (gt B j).r) ∧ w'.cell? ⟨gb, j * 4 + 3, none⟩ = some (.int .i64 (gt B j).u) ∧ w'.cell? ⟨ga, i * 4, none⟩ = some (.int .i64 (gt A i).s) ∧ w'.cell? ⟨ga, i * 4 + 1, none⟩ = some (.int .i32 (gt A i).n) ∧ w'.cell? ⟨ga, i * 4 + 2, none⟩ = some (.int .i64 (gt A i).r) ∧ w'.cell? ⟨ga, i * 4 + 3, none⟩ = some (.int .i64 (gt A i).u)) (go_keep) ((go_at_call 32; refine (zbefore (gt B j) (gt A i) _).mono ?_; rintro e w4 ⟨rfl, hb4⟩; have hca := fun o => hb4.cell (p := ⟨ga, o, none⟩) la; have hcb := fun o => hb4.cell (p := ⟨gb, o, none⟩) lb))
            have hM4 : MS w g ga gb n i j A B o w4 := hM.below (((Below.refl _ _).drew).trans hb4)
            have hg4 : g < w4.heap.size := by have := hb4.size; simp at this; omega
            obtain ⟨f', hf', hE'⟩ := mrg_yes (f := f) (A := A) (B := B) (i := i) (j := j) (by rw [HLA.out]; exact h1) (by rw [HLB.out]; exact h2) (by rw [HLA.out, HLB.out]; exact hf) h3
            rw [HLA.out, HLB.out] at hf'
            have HE2 : Hid (mrg n A B = o ++ [gt B j] ++ mrg f' (A.drop (i)) (B.drop (j + 1))) := by show _ = _; rw [HE.out, hE', List.append_assoc]; rfl
            clear hE' e0 e1 e2 e3 f0 f1 f2 f3 hM HE hb4 hca hcb la lb hgr
            obtain ⟨e0, e1, e2, e3⟩ := hM4.ob.at j (by first | (rw [HLA.out]; exact h1) | (rw [HLB.out]; exact h2))
            go_wp2_with (at_builtin; refine wpList_append_fits _ rfl (.tmp 53) (.tmp 58) 38 rfl g 45 i0 4 Try.underlying38 hi0 hz1 g (i + j) n (o.flatMap tcells) rfl (hM4.own.alloc _) ⟨w4.heap.size, 0, none⟩ 1 1 (tcells (gt B j)) rfl rfl (cellT_new _ _) (oneT _) (by omega) ?_; intro w5 ho5 hg5)
            have hM5 : MS w g ga gb n (i) (j + 1) A B (o ++ [gt B j]) w5 := hM4.app (gt B j) _ (by omega) hga hgb hg4 hwg ho5 hg5
            have hg5' : g < w5.heap.size := by have := hg5.size; simp at this; omega
            clear ho5 hg5 hM4 e0 e1 e2 e3
            go_wp2
            go_roundw
            case rel => exact ⟨f', i, j + 1, _, by omega, by omega, hf', by first | rfl | (congr 1; omega), by go_num, by go_num, hM5, hg5', HE2⟩
            case measure => simp [intOf]; omega
          · have h3' : bef (gt B j) (gt A i) = false := by simpa using h3
            clear h3
            go_upto_region 12 with fail
            go_region_held3 (fun w' => w'.cell? ⟨gb, j * 4, none⟩ = some (.int .i64 (gt B j).s) ∧ w'.cell? ⟨gb, j * 4 + 1, none⟩ = some (.int .i32 (gt B j).n) ∧ w'.cell? ⟨gb, j * 4 + 2, none⟩ = some (.int .i64 (gt B j).r) ∧ w'.cell? ⟨gb, j * 4 + 3, none⟩ = some (.int .i64 (gt B j).u) ∧ w'.cell? ⟨ga, i * 4, none⟩ = some (.int .i64 (gt A i).s) ∧ w'.cell? ⟨ga, i * 4 + 1, none⟩ = some (.int .i32 (gt A i).n) ∧ w'.cell? ⟨ga, i * 4 + 2, none⟩ = some (.int .i64 (gt A i).r) ∧ w'.cell? ⟨ga, i * 4 + 3, none⟩ = some (.int .i64 (gt A i).u)) (go_keep) ((go_at_call 32; refine (zbefore (gt B j) (gt A i) _).mono ?_; rintro e w4 ⟨rfl, hb4⟩; have hca := fun o => hb4.cell (p := ⟨ga, o, none⟩) la; have hcb := fun o => hb4.cell (p := ⟨gb, o, none⟩) lb))
            have hM4 : MS w g ga gb n i j A B o w4 := hM.below (((Below.refl _ _).drew).trans hb4)
            have hg4 : g < w4.heap.size := by have := hb4.size; simp at this; omega
            obtain ⟨f', hf', hE'⟩ := mrg_no (f := f) (A := A) (B := B) (i := i) (j := j) (by rw [HLA.out]; exact h1) (by rw [HLB.out]; exact h2) (by rw [HLA.out, HLB.out]; exact hf) h3'
            rw [HLA.out, HLB.out] at hf'
            have HE2 : Hid (mrg n A B = o ++ [gt A i] ++ mrg f' (A.drop (i + 1)) (B.drop (j))) := by show _ = _; rw [HE.out, hE', List.append_assoc]; rfl
            clear hE' e0 e1 e2 e3 f0 f1 f2 f3 hM HE hb4 hca hcb la lb hgr
            obtain ⟨e0, e1, e2, e3⟩ := hM4.oa.at i (by first | (rw [HLA.out]; exact h1) | (rw [HLB.out]; exact h2))
            go_wp2_with (at_builtin; refine wpList_append_fits _ rfl (.tmp 62) (.tmp 67) 38 rfl g 45 i0 4 Try.underlying38 hi0 hz1 g (i + j) n (o.flatMap tcells) rfl (hM4.own.alloc _) ⟨w4.heap.size, 0, none⟩ 1 1 (tcells (gt A i)) rfl rfl (cellT_new _ _) (oneT _) (by omega) ?_; intro w5 ho5 hg5)
            have hM5 : MS w g ga gb n (i + 1) (j) A B (o ++ [gt A i]) w5 := hM4.app (gt A i) _ (by omega) hga hgb hg4 hwg ho5 hg5
            have hg5' : g < w5.heap.size := by have := hg5.size; simp at this; omega
            clear ho5 hg5 hM4 e0 e1 e2 e3
            go_wp2
            go_roundw
            case rel => exact ⟨f', i + 1, j, _, by omega, by omega, hf', by first | rfl | (congr 1; omega), by go_num, by go_num, hM5, hg5', HE2⟩
            case measure => simp [intOf]; omega
        · have HE2 : Hid (mrg n A B = o ++ (A.drop i ++ B.drop j)) := by
            show _ = _
            rw [HE.out, mrg_end]
            rw [HLA.out, HLB.out]
            omega
          clear HE hf
          have HP : Hid ((mrg n A B).Perm q) := (mrg_perm n A B).trans PQ.out
          have HSd : Hid ((mrg n A B).Pairwise Le) := mrg_sorted n A B (by rw [HLA.out, HLB.out]; omega) sA sB
          have hBr := hM.bel
          by_cases h2 : i < m
          · have h3 : j = n - m := by omega
            have hrow := row_cells (hM.oa.rowFrom i)
            have HE3 : Hid (mrg n A B = o ++ A.drop i) := by
              show _ = _
              rw [HE2.out, List.drop_of_length_le (by rw [HLB.out]; omega : B.length ≤ j)]; simp
            have hlen : ((A.drop i).flatMap tcells).length = (m - i) * 4 := by rw [flat_len, List.length_drop, HLA.out]; omega
            have hown := hM.own
            subst h3
            clear HE2 h1 hM
            go_wp2_with (at_builtin; refine wpList_append_fits _ rfl (.tmp 71) (.tmp 74) 38 rfl g 45 i0 4 Try.underlying38 hi0 hz1 g (i + (n - m)) n (o.flatMap tcells) rfl hown ⟨ga, i * 4, none⟩ (m - i) (m - i) ((A.drop i).flatMap tcells) rfl hlen hrow (tcells_one _) (by omega) ?_; intro w5 ho5 hg5)
            have e5 : i + (n - m) + (m - i) = n := by omega
            rw [e5] at ho5 ⊢
            rw [← List.flatMap_append, ← HE3.out] at ho5
            have hO5 := ownT_of ho5
            have hB5 : Below w.heap.size w w5 := hBr.grown hg5 (by omega) (fun k hk => by cases hk; exact hwg)
            go_ret
            exact ⟨g, _, rfl, hO5, HP.out, HSd.out, hB5⟩
          · have h3 : i = m := by omega
            have HE3 : Hid (mrg n A B = o ++ B.drop j) := by
              show _ = _
              rw [HE2.out, List.drop_of_length_le (by rw [HLA.out]; omega : A.length ≤ i)]; simp
            have hown := hM.own
            by_cases h4 : j < n - m
            · have hrow := row_cells (hM.ob.rowFrom j)
              have hlen : ((B.drop j).flatMap tcells).length = (n - m - j) * 4 := by rw [flat_len, List.length_drop, HLB.out]; omega
              subst h3
              clear HE2 h1 hM
              go_wp2_with (at_builtin; refine wpList_append_fits _ rfl (.tmp 76) (.tmp 79) 38 rfl g 45 i0 4 Try.underlying38 hi0 hz1 g (i + j) n (o.flatMap tcells) rfl hown ⟨gb, j * 4, none⟩ (n - i - j) (n - i - j) ((B.drop j).flatMap tcells) rfl hlen hrow (tcells_one _) (by omega) ?_; intro w5 ho5 hg5)
              have e5 : i + j + (n - i - j) = n := by omega
              rw [e5] at ho5 ⊢
              rw [← List.flatMap_append, ← HE3.out] at ho5
              have hO5 := ownT_of ho5
              have hB5 : Below w.heap.size w w5 := hBr.grown hg5 (by omega) (fun k hk => by cases hk; exact hwg)
              go_ret
              exact ⟨g, _, rfl, hO5, HP.out, HSd.out, hB5⟩
            · have HE4 : Hid (mrg n A B = o) := by
                show _ = _
                rw [HE3.out, List.drop_of_length_le (by rw [HLB.out]; omega : B.length ≤ j)]; simp
              have e5 : i + j = n := by omega
              rw [e5, ← HE4.out] at hown
              have hO5 := ownT_of hown
              have h5 : j = n - m := by omega
              subst h3
              subst h5
              clear HE2 HE3 h1 hM hown e5
              go_wp2
              rw [show i + (n - i) = n by omega]
              go_ret
              exact ⟨g, _, rfl, hO5, HP.out, HSd.out, hBr⟩
end Go.Proofs.Qxb6003262a
