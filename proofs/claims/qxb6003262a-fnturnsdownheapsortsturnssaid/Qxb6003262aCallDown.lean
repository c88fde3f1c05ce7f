/-
  The walk of zzCallDown.
-/
import Derived.Test.Qxb6003262aZZ
namespace Go.Proofs.Qxb6003262a
set_option linter.unusedVariables false
open Go.RowKit

/-- The four rows, filled as far as k. -/
structure Fill2 (w0 : World) (g h0 h1 h2 h3 n k : Nat) (r : List Tn) (wr : World) : Prop where
  i0 : OwnI wr h0 2 .i64 ((r.map Tn.s).take k ++ List.replicate (n - k) 0)
  i1 : OwnI wr h1 21 .i32 ((r.map Tn.n).take k ++ List.replicate (n - k) 0)
  i2 : OwnI wr h2 3 .i64 ((r.map Tn.r).take k ++ List.replicate (n - k) 0)
  i3 : OwnI wr h3 3 .i64 ((r.map Tn.u).take k ++ List.replicate (n - k) 0)
  bel : Below g w0 wr

theorem Fill2.step {w0 : World} {g h0 h1 h2 h3 n k : Nat} {r : List Tn} {wr : World} (h : Fill2 w0 g h0 h1 h2 h3 n k r wr) (hl : r.length = n) (hk : k < n) (a0 : g ≤ h0) (a1 : h0 < h1) (a2 : h1 < h2) (a3 : h2 < h3) :
    Fill2 w0 g h0 h1 h2 h3 n (k + 1) r ((((wr.setCell ⟨h0, k, none⟩ (.int .i64 (gt r k).s)).setCell ⟨h1, k, none⟩ (.int .i32 (gt r k).n)).setCell ⟨h2, k, none⟩ (.int .i64 (gt r k).r)).setCell ⟨h3, k, none⟩ (.int .i64 (gt r k).u)) := by
  refine ⟨?_, ?_, ?_, ?_, (((h.bel.setCell (by show g ≤ h0; omega) _).setCell (by show g ≤ h1; omega) _).setCell (by show g ≤ h2; omega) _).setCell (by show g ≤ h3; omega) _⟩
  · have := h.i0.store k (gt r k).s
    rw [fill_set (r.map Tn.s) n k _ (by simpa using hl) hk (map_gt r _ k (by omega))] at this
    exact (((this.other (by show h0 ≠ h1; omega) _).other (by show h0 ≠ h2; omega) _).other (by show h0 ≠ h3; omega) _)
  · have := (h.i1.other (a := ⟨h0, k, none⟩) (by show h1 ≠ h0; omega) (.int .i64 (gt r k).s)).store k (gt r k).n
    rw [fill_set (r.map Tn.n) n k _ (by simpa using hl) hk (map_gt r _ k (by omega))] at this
    exact ((this.other (by show h1 ≠ h2; omega) _).other (by show h1 ≠ h3; omega) _)
  · have := ((h.i2.other (a := ⟨h0, k, none⟩) (by show h2 ≠ h0; omega) (.int .i64 (gt r k).s)).other (a := ⟨h1, k, none⟩) (by show h2 ≠ h1; omega) (.int .i32 (gt r k).n)).store k (gt r k).r
    rw [fill_set (r.map Tn.r) n k _ (by simpa using hl) hk (map_gt r _ k (by omega))] at this
    exact this.other (by show h2 ≠ h3; omega) _
  · have := (((h.i3.other (a := ⟨h0, k, none⟩) (by show h3 ≠ h0; omega) (.int .i64 (gt r k).s)).other (a := ⟨h1, k, none⟩) (by show h3 ≠ h1; omega) (.int .i32 (gt r k).n)).other (a := ⟨h2, k, none⟩) (by show h3 ≠ h2; omega) (.int .i64 (gt r k).r)).store k (gt r k).u
    rw [fill_set (r.map Tn.u) n k _ (by simpa using hl) hk (map_gt r _ k (by omega))] at this
    exact this

set_option maxHeartbeats 1000000 in
theorem calldown (a : Option Addr) (n c i : Nat) (q : List Tn) (w : World) (hi : (i : Int) ≤ 9223372036854775807) (hT : TIn w a n q) :
    Calls Try.prog 23 #[.slice a n c, .int .i64 i] w fun e w' =>
      ∃ g, e = .returned (.slice (some ⟨g, 0, none⟩) n n) ∧ OwnT w' g 45 (downF q i) ∧ w.heap.size ≤ g ∧ Below w.heap.size w w' := by
  obtain ⟨hq, hn, hnil, hrow⟩ := hT
  obtain ⟨p2, hp2, ha0, ha1, ha2⟩ := info_parts Try.info2
  obtain ⟨p21, hp21, hb0, hb1, hb2⟩ := info_parts Try.info21
  obtain ⟨p3, hp3, hc0, hc1, hc2⟩ := info_parts Try.info3
  clear hnil
  go_enter Try.func23, Try.ntmps23
  go_wp2_with (first | (at_make; refine wpList_make_full _ rfl (.tmp 17) (.tmp 17) 56 rfl w.heap.size 2 p2 _ 1 Try.underlying56 hp2 ha0 ha1 .i64 .i64 n n n rfl rfl rfl rfl (by rw [ha2]; omega) (by unfold maxLen; omega) (by omega) ?_; intro w3 o3 r3; have s3 := r3.size) | (at_make; refine wpList_make_full _ rfl (.tmp 20) (.tmp 20) 57 rfl w.heap.size 21 p21 _ 1 Try.underlying57 hp21 hb0 hb1 .i64 .i64 n n n rfl rfl rfl rfl (by rw [hb2]; omega) (by unfold maxLen; omega) (by omega) ?_; intro w4 o4 r4; have s4 := r4.size) | (at_make; refine wpList_make_full _ rfl (.tmp 23) (.tmp 23) 58 rfl w.heap.size 3 p3 _ 1 Try.underlying58 hp3 hc0 hc1 .i64 .i64 n n n rfl rfl rfl rfl (by rw [hc2]; omega) (by unfold maxLen; omega) (by omega) ?_; intro w5 o5 r5; have s5 := r5.size) | (at_make; refine wpList_make_full _ rfl (.tmp 26) (.tmp 26) 58 rfl w.heap.size 3 p3 _ 1 Try.underlying58 hp3 hc0 hc1 .i64 .i64 n n n rfl rfl rfl rfl (by rw [hc2]; omega) (by unfold maxLen; omega) (by omega) ?_; intro w6 o6 r6; have s6 := r6.size))
  have b3 := below_grown0 r3
  have b4 := below_grown0 r4
  have b5 := below_grown0 r5
  have b6 := below_grown0 r6
  have k3 : w.heap.size < w3.heap.size := (o3.lt _ rfl).2
  have k4 : w3.heap.size < w4.heap.size := (o4.lt _ rfl).2
  have k5 : w4.heap.size < w5.heap.size := (o5.lt _ rfl).2
  have k6 : w5.heap.size < w6.heap.size := (o6.lt _ rfl).2
  have HF0 : Fill2 w w.heap.size w.heap.size w3.heap.size w4.heap.size w5.heap.size n 0 q w6 := by
    refine ⟨?_, ?_, ?_, ?_, ((b3.trans (b4.mono (by omega))).trans (b5.mono (by omega))).trans (b6.mono (by omega))⟩
    · simpa using ((((ownI_made o3).below b4 (by omega)).below b5 (by omega)).below b6 (by omega))
    · simpa using (((ownI_made o4).below b5 (by omega)).below b6 (by omega))
    · simpa using ((ownI_made o5).below b6 (by omega))
    · simpa using (ownI_made o6)
  clear o3 o4 o5 o6 r3 r4 r5 r6 s3 s4 s5 s6 b3 b4 b5 b6
  obtain ⟨h0, e0⟩ : ∃ h, h = w.heap.size := ⟨_, rfl⟩
  obtain ⟨h1, e1⟩ : ∃ h, h = w3.heap.size := ⟨_, rfl⟩
  obtain ⟨h2, e2⟩ : ∃ h, h = w4.heap.size := ⟨_, rfl⟩
  obtain ⟨h3, e3⟩ : ∃ h, h = w5.heap.size := ⟨_, rfl⟩
  rw [← e0, ← e1] at k3
  rw [← e1, ← e2] at k4
  rw [← e2, ← e3] at k5
  rw [← e1, ← e2, ← e3] at HF0
  have HF0' : Fill2 w w.heap.size h0 h1 h2 h3 n 0 q w6 := by rw [e0]; exact HF0
  rw [← e0, ← e1, ← e2, ← e3]
  have H0 : Hid (h0 = w.heap.size) := e0
  clear e0 e1 e2 e3 k6 HF0
  go_loopw [9] (fun x wx => ∃ k : Nat, k ≤ n ∧ x = .int .i64 (k : Int) ∧ Fill2 w w.heap.size h0 h1 h2 h3 n k q wx) (fun x _ => n - (intOf x).toNat)
  case atStart => exact ⟨0, by omega, rfl, HF0'⟩
  case round =>
    clear HF0'
    obtain ⟨k, hk, rfl, HF⟩ := hrel
    by_cases hlt : k < n
    · obtain hz | ⟨b, off, rfl, hrow⟩ := hrow
      · omega
      have HS := HF.step hq hlt (by rw [H0.out]; exact Nat.le_refl _) k3 k4 k5
      obtain ⟨t0, t1, t2, t3⟩ := (hrow.below' HF.bel) k (by omega)
      have hbl : b < h0 := by
        have := hrow.lt
        rw [H0.out]
        rcases this with h | h
        · exact h
        · rw [h] at hq; simp at hq; omega
      obtain ⟨v0, c0⟩ := HF.i0.atSome k (by simp; omega)
      obtain ⟨v1, c1⟩ := HF.i1.atSome k (by simp; omega)
      obtain ⟨v2, c2⟩ := HF.i2.atSome k (by simp; omega)
      obtain ⟨v3, c3⟩ := HF.i3.atSome k (by simp; omega)
      have z0 := HF.i0.frozen
      have z1 := HF.i1.frozen
      have z2 := HF.i2.frozen
      have z3 := HF.i3.frozen
      clear HF hrow
      go_wp2
      go_roundw
      case rel => exact ⟨k + 1, by omega, by go_num, HS⟩
      case measure => simp [intOf]; omega
    · obtain rfl : n = k := by omega
      have HR4 : Four wr h0 h1 h2 h3 q :=
        ⟨by have := HF.i0; rw [Nat.sub_self, List.take_of_length_le (by simp; omega)] at this; simpa using this, by have := HF.i1; rw [Nat.sub_self, List.take_of_length_le (by simp; omega)] at this; simpa using this, by have := HF.i2; rw [Nat.sub_self, List.take_of_length_le (by simp; omega)] at this; simpa using this, by have := HF.i3; rw [Nat.sub_self, List.take_of_length_le (by simp; omega)] at this; simpa using this⟩
      have hBr := HF.bel
      clear HF hrow
      obtain ⟨p45, hp45, hd0, hd1, hd2⟩ := info_parts Try.info45
      go_wp2_with fail
      refine (zzdown h0 h1 h2 h3 n i q wr hn hi hq HR4).mono ?_
      rintro e w2 ⟨m0, m1, m2, m3, rfl, HF4, hB2⟩
      have hB3 : Below w.heap.size w w2 := hBr.trans (hB2.mono hBr.size)
      have hw2 : w.heap.size ≤ w2.heap.size := hB3.size
      have hrl : (downF q i).length = n := (downF_len q i).trans hq
      obtain ⟨r, hr⟩ : ∃ r, r = downF q i := ⟨_, rfl⟩
      rw [← hr] at HF4 hrl
      have HR : Hid (r = downF q i) := hr
      clear hr HR4 hBr hB2
      have l0 := HF4.i0.lt
      have l1 := HF4.i1.lt
      have l2 := HF4.i2.lt
      have l3 := HF4.i3.lt
      go_wp2_with (at_make; refine wpList_make_full _ rfl (.tmp 78) (.tmp 78) 38 rfl w.heap.size 45 p45 _ 4 Try.underlying38 hp45 hd0 hd1 .i64 .i64 n n n rfl rfl rfl rfl (by rw [hd2]; omega) (by unfold maxLen; omega) (by omega) ?_; intro w7 o7 r7)
      have H7 : OwnT w7 w2.heap.size 45 (List.replicate n t0) := ownT_made o7
      have b7 := below_grown0 r7
      obtain ⟨g, eg⟩ : ∃ g, g = w2.heap.size := ⟨_, rfl⟩
      rw [← eg] at H7 b7 l0 l1 l2 l3 ⊢
      have HG : Hid (g = w2.heap.size) := eg
      have hgw : w.heap.size ≤ g := by omega
      clear eg o7 r7 hw2
      go_loopw [15] (fun x wx => ∃ k : Nat, k ≤ n ∧ x = .int .i64 (k : Int) ∧ OwnT wx g 45 (r.take k ++ List.replicate (n - k) t0) ∧ Below g w2 wx) (fun x _ => n - (intOf x).toNat)
      case atStart => exact ⟨0, by omega, rfl, by simpa using H7, b7⟩
      case round =>
        clear H7 b7
        obtain ⟨k, hk, rfl, HC, hB⟩ := hrel
        by_cases hlt : k < n
        · have hFr := HF4.below hB l0 l1 l2 l3
          obtain ⟨f0, f1, f2, f3⟩ := hFr.at k (by omega)
          obtain ⟨e0, e1, e2, e3⟩ := HC.at k (by simp; omega)
          have hf := HC.frozen
          have HS := HC.store k (gt r k) (by simp; omega)
          rw [fill_setT r n k hrl hlt] at HS
          have hBS := (((hB.setCell (p := ⟨g, k * 4, none⟩) (Nat.le_refl _) (.int .i64 (gt r k).s)).setCell (p := ⟨g, k * 4 + 1, none⟩) (Nat.le_refl _) (.int .i32 (gt r k).n)).setCell (p := ⟨g, k * 4 + 2, none⟩) (Nat.le_refl _) (.int .i64 (gt r k).r)).setCell (p := ⟨g, k * 4 + 3, none⟩) (Nat.le_refl _) (.int .i64 (gt r k).u)
          have n0 : ¬ (g = m0) := by omega
          have n1 : ¬ (g = m1) := by omega
          have n2 : ¬ (g = m2) := by omega
          have n3 : ¬ (g = m3) := by omega
          have kI : (k : Int) < (n : Int) := by omega
          have kI0 : (0 : Int) ≤ (k : Int) := by omega
          clear HC hFr HF4
          go_upto_region 17 with fail
          go_region_held3 (fun w' => w'.cell? ⟨m0, k, none⟩ = some (.int .i64 (gt r k).s) ∧ w'.cell? ⟨m1, k, none⟩ = some (.int .i32 (gt r k).n) ∧ w'.cell? ⟨m2, k, none⟩ = some (.int .i64 (gt r k).r) ∧ w'.cell? ⟨m3, k, none⟩ = some (.int .i64 (gt r k).u)) (go_keep) (fail)
          all_goals go_wp2
          all_goals go_roundw
          case rel => exact ⟨k + 1, by omega, by go_num, HS, hBS.drew⟩
          case measure => simp [intOf]; omega
        · obtain rfl : n = k := by omega
          go_wp2
          go_ret
          refine ⟨g, rfl, ?_, hgw, hB3.trans (hB.mono hgw)⟩
          rw [← HR.out]
          rw [Nat.sub_self, List.take_of_length_le (by omega)] at HC; simpa using HC
end Go.Proofs.Qxb6003262a
