/-
  The walk of ZZTurnsDown.
-/
import Derived.Test.Qxb6003262aDown
namespace Go.Proofs.Qxb6003262a
set_option linter.unusedVariables false
open Go.RowKit

theorem down_any (g n i : Nat) (q : List Tn) (w : World) (hn : n ≤ 1048576) (hi : (i : Int) ≤ 9223372036854775807) (hq : q.length = n) (ho : OwnT w g 70 q) :
    Calls Try.prog 35 #[.slice (some ⟨g, 0, none⟩) n n, .int .i64 i] w fun e w' => e = .returned (.tuple #[]) ∧ OwnT w' g 70 (downF q i) ∧ Below g w w' := by
  by_cases h : i < n
  · exact down_in g n i q w hn hq h ho
  · refine (down_out g n i q w hn hi (by omega)).mono ?_
    rintro e w' ⟨rfl, rfl⟩
    exact ⟨rfl, by unfold downF; rw [if_neg (by omega)]; exact ho, Below.refl _ _⟩

/-- A block that holds just these numbers. -/
def OwnI (w : World) (g : Nat) (ty : TypeId) (k : IntKind) (xs : List Int) : Prop := w.heap[g]? = some (.cells (xs.map (Value.int k)).toArray ty)
theorem OwnI.at {w : World} {g : Nat} {ty : TypeId} {k : IntKind} {xs : List Int} (h : OwnI w g ty k xs) (j : Nat) (hj : j < xs.length) : w.cell? ⟨g, j, none⟩ = some (.int k (xs[j]?.getD 0)) := by
  rw [cell_of_row w g j _ ty (0, 0) h]
  simp [hj]
theorem OwnI.frozen {w : World} {g : Nat} {ty : TypeId} {k : IntKind} {xs : List Int} (h : OwnI w g ty k xs) (j : Nat) : w.frozen? ⟨g, j, none⟩ = false := frozen_of_row w g j _ ty h
theorem OwnI.lt {w : World} {g : Nat} {ty : TypeId} {k : IntKind} {xs : List Int} (h : OwnI w g ty k xs) : g < w.heap.size := by
  rcases Nat.lt_or_ge g w.heap.size with h' | h'
  · exact h'
  · rw [OwnI, Array.getElem?_eq_none h'] at h; cases h
theorem OwnI.store {w : World} {g : Nat} {ty : TypeId} {k : IntKind} {xs : List Int} (h : OwnI w g ty k xs) (j : Nat) (x : Int) : OwnI (w.setCell ⟨g, j, none⟩ (.int k x)) g ty k (xs.set j x) := by
  unfold OwnI
  rw [heap_setCell_same w g j _ ty (.int k x) h]
  simp [List.map_set]
theorem OwnI.other {w : World} {g : Nat} {ty : TypeId} {k : IntKind} {xs : List Int} (h : OwnI w g ty k xs) {a : Addr} (ha : g ≠ a.block) (v : Value) : OwnI (w.setCell a v) g ty k xs := (heap_setCell_other w a g v ha).trans h
theorem OwnT.other {w : World} {g : Nat} {ty : TypeId} {q : List Tn} (h : OwnT w g ty q) {a : Addr} (ha : g ≠ a.block) (v : Value) : OwnT (w.setCell a v) g ty q := (heap_setCell_other w a g v ha).trans h
theorem OwnI.below {w wr : World} {g B : Nat} {ty : TypeId} {k : IntKind} {xs : List Int} (h : OwnI w g ty k xs) (hB : Below B w wr) (hg : g < B) : OwnI wr g ty k xs := (hB.block g hg).trans h
theorem OwnT.below {w wr : World} {g B : Nat} {ty : TypeId} {q : List Tn} (h : OwnT w g ty q) (hB : Below B w wr) (hg : g < B) : OwnT wr g ty q := (hB.block g hg).trans h
theorem ownI_made {w : World} {base g n : Nat} {ty : TypeId} {k : IntKind} (h : w.ownsRow base ty 1 (.slice (some ⟨g, 0, none⟩) n n) n (madeCells (Value.int k 0).cells (n * 1)).toList) : OwnI w g ty k (List.replicate n 0) := by
  rcases h.2 with ⟨h', _⟩ | ⟨g', cap', cur, h', _, hg, _, _, hs, ht⟩
  · simp at h'
  · simp only [Value.slice.injEq, Option.some.injEq, Addr.mk.injEq, and_true, true_and] at h'
    obtain ⟨rfl, rfl⟩ := h'
    rw [List.take_of_length_le (by simp [hs])] at ht
    unfold OwnI
    rw [hg]
    have : cur = ((List.replicate n (0 : Int)).map (Value.int k)).toArray := by
      apply Array.ext'
      rw [ht]
      apply List.ext_getElem?
      intro j
      by_cases hj : j < n
      · simp [madeCells, Value.cells, hj, Nat.mod_one]
      · rw [List.getElem?_eq_none (by simp [size_madeCells]; omega), List.getElem?_eq_none (by simp; omega)]
    rw [this]

theorem fill_set (ys : List Int) (n k : Nat) (x : Int) (hl : ys.length = n) (hk : k < n) (hx : ys[k]?.getD 0 = x) : (ys.take k ++ List.replicate (n - k) 0).set k x = ys.take (k + 1) ++ List.replicate (n - (k + 1)) 0 := by
  rw [List.set_append_right _ _ (by simp; omega), show k - (ys.take k).length = 0 by simp; omega, show n - k = n - (k + 1) + 1 by omega, List.replicate_succ, List.set_cons_zero, List.take_add_one, List.append_assoc]
  congr 1
  rw [← hx, List.getElem?_eq_getElem (by omega)]; rfl
theorem fill_setT (q : List Tn) (n k : Nat) (hl : q.length = n) (hk : k < n) : (q.take k ++ List.replicate (n - k) t0).set k (gt q k) = q.take (k + 1) ++ List.replicate (n - (k + 1)) t0 := by
  rw [List.set_append_right _ _ (by simp; omega), show k - (q.take k).length = 0 by simp; omega, show n - k = n - (k + 1) + 1 by omega, List.replicate_succ, List.set_cons_zero, List.take_add_one, List.append_assoc]
  congr 1
  unfold gt
  rw [List.getElem?_eq_getElem (by omega)]; rfl
theorem map_gt (q : List Tn) (f : Tn → Int) (k : Nat) (hk : k < q.length) : (q.map f)[k]?.getD 0 = f (gt q k) := by
  unfold gt
  rw [List.getElem?_map, List.getElem?_eq_getElem hk]; rfl

theorem Try.info70 : (Try.prog.info? 70).map (fun i => (i.zero, i.size, i.bytes)) = some (some (.agg #[.int .i64 0, .int .i32 0, .int .i64 0, .int .i64 0]), 4, 32) := by kernel_rfl
theorem Try.info2 : (Try.prog.info? 2).map (fun i => (i.zero, i.size, i.bytes)) = some (some (.int .i64 0), 1, 8) := by kernel_rfl
theorem Try.info21 : (Try.prog.info? 21).map (fun i => (i.zero, i.size, i.bytes)) = some (some (.int .i32 0), 1, 4) := by kernel_rfl
theorem Try.info3 : (Try.prog.info? 3).map (fun i => (i.zero, i.size, i.bytes)) = some (some (.int .i64 0), 1, 8) := by kernel_rfl

/-- Four rows that bear the turns' four fields. -/
structure Four (w : World) (g0 g1 g2 g3 : Nat) (q : List Tn) : Prop where
  i0 : OwnI w g0 2 .i64 (q.map Tn.s)
  i1 : OwnI w g1 21 .i32 (q.map Tn.n)
  i2 : OwnI w g2 3 .i64 (q.map Tn.r)
  i3 : OwnI w g3 3 .i64 (q.map Tn.u)

theorem Four.below {w wr : World} {g0 g1 g2 g3 B : Nat} {q : List Tn} (h : Four w g0 g1 g2 g3 q) (hB : Below B w wr) (h0 : g0 < B) (h1 : g1 < B) (h2 : g2 < B) (h3 : g3 < B) : Four wr g0 g1 g2 g3 q :=
  ⟨h.i0.below hB h0, h.i1.below hB h1, h.i2.below hB h2, h.i3.below hB h3⟩
theorem Four.at {w : World} {g0 g1 g2 g3 : Nat} {q : List Tn} (h : Four w g0 g1 g2 g3 q) (j : Nat) (hj : j < q.length) :
    w.cell? ⟨g0, j, none⟩ = some (.int .i64 (gt q j).s) ∧ w.cell? ⟨g1, j, none⟩ = some (.int .i32 (gt q j).n) ∧ w.cell? ⟨g2, j, none⟩ = some (.int .i64 (gt q j).r) ∧ w.cell? ⟨g3, j, none⟩ = some (.int .i64 (gt q j).u) :=
  ⟨by rw [h.i0.at j (by simpa using hj), map_gt q _ j hj], by rw [h.i1.at j (by simpa using hj), map_gt q _ j hj], by rw [h.i2.at j (by simpa using hj), map_gt q _ j hj], by rw [h.i3.at j (by simpa using hj), map_gt q _ j hj]⟩

theorem below_grown0 {a b : World} (h : a.grownBy b none) : Below a.heap.size a b := (Below.refl _ _).grown h (Nat.le_refl _) (fun k hk => by cases hk)

/-- The four rows, filled as far as k. -/
structure Fill (w0 : World) (g h0 h1 h2 h3 n k : Nat) (r : List Tn) (wr : World) : Prop where
  t : OwnT wr g 70 r
  i0 : OwnI wr h0 2 .i64 ((r.map Tn.s).take k ++ List.replicate (n - k) 0)
  i1 : OwnI wr h1 21 .i32 ((r.map Tn.n).take k ++ List.replicate (n - k) 0)
  i2 : OwnI wr h2 3 .i64 ((r.map Tn.r).take k ++ List.replicate (n - k) 0)
  i3 : OwnI wr h3 3 .i64 ((r.map Tn.u).take k ++ List.replicate (n - k) 0)
  bel : Below g w0 wr

theorem Fill.step {w0 : World} {g h0 h1 h2 h3 n k : Nat} {r : List Tn} {wr : World} (h : Fill w0 g h0 h1 h2 h3 n k r wr) (hl : r.length = n) (hk : k < n) (a0 : g < h0) (a1 : h0 < h1) (a2 : h1 < h2) (a3 : h2 < h3) :
    Fill w0 g h0 h1 h2 h3 n (k + 1) r ((((wr.setCell ⟨h0, k, none⟩ (.int .i64 (gt r k).s)).setCell ⟨h1, k, none⟩ (.int .i32 (gt r k).n)).setCell ⟨h2, k, none⟩ (.int .i64 (gt r k).r)).setCell ⟨h3, k, none⟩ (.int .i64 (gt r k).u)) := by
  refine ⟨((((h.t.other (by show g ≠ h0; omega) _).other (by show g ≠ h1; omega) _).other (by show g ≠ h2; omega) _).other (by show g ≠ h3; omega) _), ?_, ?_, ?_, ?_, (((h.bel.setCell (by show g ≤ h0; omega) _).setCell (by show g ≤ h1; omega) _).setCell (by show g ≤ h2; omega) _).setCell (by show g ≤ h3; omega) _⟩
  · have := h.i0.store k (gt r k).s
    rw [fill_set (r.map Tn.s) n k _ (by simpa using hl) hk (map_gt r _ k (by omega))] at this
    exact (((this.other (by show h0 ≠ h1; omega) _).other (by show h0 ≠ h2; omega) _).other (by show h0 ≠ h3; omega) _)
  · have := (h.i1.other (a := ⟨h0, k, none⟩) (by show h1 ≠ h0; omega) (.int .i64 (gt r k).s)).store k (gt r k).n
    rw [fill_set (r.map Tn.n) n k _ (by simpa using hl) hk (map_gt r _ k (by omega))] at this
    exact ((this.other (by show h1 ≠ h2; omega) _).other (by show h1 ≠ h3; omega) _)
  · have := ((h.i2.other (a := ⟨h0, k, none⟩) (by show h2 ≠ h0; omega) (.int .i64 (gt r k).s)).other (a := ⟨h1, k, none⟩) (by show h2 ≠ h1; omega) (.int .i32 (gt r k).n)).store k (gt r k).r
    rw [fill_set (r.map Tn.r) n k _ (by simpa using hl) hk (map_gt r _ k (by omega))] at this
    exact this.other (by show h2 ≠ h3; omega) _
  · have := (((h.i3.other (a := ⟨h0, k, none⟩) (by show h3 ≠ h0; omega) (.int .i64 (gt r k).s)).other (a := ⟨h1, k, none⟩) (by show h3 ≠ h1; omega) (.int .i32 (gt r k).n)).other (a := ⟨h2, k, none⟩) (by show h3 ≠ h2; omega) (.int .i64 (gt r k).r)).store k (gt r k).u
    rw [fill_set (r.map Tn.u) n k _ (by simpa using hl) hk (map_gt r _ k (by omega))] at this
    exact this
theorem OwnI.atSome {w : World} {g : Nat} {ty : TypeId} {k : IntKind} {xs : List Int} (h : OwnI w g ty k xs) (j : Nat) (hj : j < xs.length) : ∃ v, w.cell? ⟨g, j, none⟩ = some v := ⟨_, h.at j hj⟩

set_option maxHeartbeats 1000000 in
theorem zzdown (g0 g1 g2 g3 n i : Nat) (q : List Tn) (w : World) (hn : n ≤ 1048576) (hi : (i : Int) ≤ 9223372036854775807) (hq : q.length = n) (hF : Four w g0 g1 g2 g3 q) :
    Calls Try.prog 33 #[.slice (some ⟨g0, 0, none⟩) n n, .slice (some ⟨g1, 0, none⟩) n n, .slice (some ⟨g2, 0, none⟩) n n, .slice (some ⟨g3, 0, none⟩) n n, .int .i64 i] w fun e w' =>
      ∃ h0 h1 h2 h3, e = .returned (.tuple #[.slice (some ⟨h0, 0, none⟩) n n, .slice (some ⟨h1, 0, none⟩) n n, .slice (some ⟨h2, 0, none⟩) n n, .slice (some ⟨h3, 0, none⟩) n n]) ∧ Four w' h0 h1 h2 h3 (downF q i) ∧ Below w.heap.size w w' := by
  obtain ⟨j0, hj, hz0, hz1, hz2⟩ := info_parts Try.info70
  obtain ⟨g, hg⟩ : ∃ g, g = w.heap.size := ⟨_, rfl⟩
  have hl0 := hF.i0.lt
  have hl1 := hF.i1.lt
  have hl2 := hF.i2.lt
  have hl3 := hF.i3.lt
  go_enter Try.func33, Try.ntmps33
  go_wp2_with (at_make; refine wpList_make_full _ rfl (.tmp 22) (.tmp 22) 68 rfl w.heap.size 70 j0 _ 4 Try.underlying68 hj hz0 hz1 .i64 .i64 n n n rfl rfl rfl rfl (by rw [hz2]; omega) (by unfold maxLen; omega) (Nat.le_refl _) ?_; intro w1 hown hgrow)
  rw [← hg] at hown ⊢
  have H0 : OwnT w1 g 70 (List.replicate n t0) := ownT_made hown
  have hB0 : Below g w w1 := (Below.refl _ _).grown hgrow (by omega) (fun k hk => by cases hk)
  have HG : Hid (g = w.heap.size) := hg
  rw [← hg] at hl0 hl1 hl2 hl3
  clear hown hgrow hg
  go_loopw [26] (fun x wr => ∃ k : Nat, k ≤ n ∧ x = .int .i64 (k : Int) ∧ OwnT wr g 70 (q.take k ++ List.replicate (n - k) t0) ∧ Below g w wr) (fun x _ => n - (intOf x).toNat)
  case atStart => exact ⟨0, by omega, rfl, by simpa using H0, hB0⟩
  case round =>
    obtain ⟨k, hk, rfl, HC, hB⟩ := hrel
    clear H0 hB0
    by_cases hlt : k < n
    · have hFr := hF.below hB hl0 hl1 hl2 hl3
      obtain ⟨f0, f1, f2, f3⟩ := hFr.at k (by omega)
      obtain ⟨e0, e1, e2, e3⟩ := HC.at k (by simp; omega)
      have hf := HC.frozen
      have HS := HC.store k (gt q k) (by simp; omega)
      rw [fill_setT q n k hq hlt] at HS
      have hBS := (((hB.setCell (p := ⟨g, k * 4, none⟩) (Nat.le_refl _) (.int .i64 (gt q k).s)).setCell (p := ⟨g, k * 4 + 1, none⟩) (Nat.le_refl _) (.int .i32 (gt q k).n)).setCell (p := ⟨g, k * 4 + 2, none⟩) (Nat.le_refl _) (.int .i64 (gt q k).r)).setCell (p := ⟨g, k * 4 + 3, none⟩) (Nat.le_refl _) (.int .i64 (gt q k).u)
      have n0 : ¬ (g = g0) := by omega
      have n1 : ¬ (g = g1) := by omega
      have n2 : ¬ (g = g2) := by omega
      have n3 : ¬ (g = g3) := by omega
      have kI : (k : Int) < (n : Int) := by omega
      have kI0 : (0 : Int) ≤ (k : Int) := by omega
      clear HC hFr
      go_upto_region 5 with fail
      go_region_held3 (fun w' => w'.cell? ⟨g0, k, none⟩ = some (.int .i64 (gt q k).s) ∧ w'.cell? ⟨g1, k, none⟩ = some (.int .i32 (gt q k).n) ∧ w'.cell? ⟨g2, k, none⟩ = some (.int .i64 (gt q k).r) ∧ w'.cell? ⟨g3, k, none⟩ = some (.int .i64 (gt q k).u)) (go_keep) (fail)
      all_goals go_wp2
      all_goals go_roundw
      case rel => exact ⟨k + 1, by omega, by go_num, HS, hBS.drew⟩
      case measure => simp [intOf]; omega
    · obtain rfl : n = k := by omega
      have HT : OwnT wr g 70 q := by rw [Nat.sub_self, List.take_of_length_le (by omega)] at HC; simpa using HC
      clear HC
      obtain ⟨p2, hp2, ha0, ha1, ha2⟩ := info_parts Try.info2
      obtain ⟨p21, hp21, hb0, hb1, hb2⟩ := info_parts Try.info21
      obtain ⟨p3, hp3, hc0, hc1, hc2⟩ := info_parts Try.info3
      have hgr := HT.lt
      go_wp2_with fail
      refine (down_any g n i q wr hn hi hq HT).mono ?_
      rintro e w2 ⟨rfl, HT2, hB2⟩
      have hB3 : Below g w w2 := hB.trans hB2
      have hg2 := HT2.lt
      have hrl : (downF q i).length = n := (downF_len q i).trans hq
      obtain ⟨r, hr⟩ : ∃ r, r = downF q i := ⟨_, rfl⟩
      rw [← hr] at HT2 hrl
      have HR : Hid (r = downF q i) := hr
      clear hr HT hB hB2 hF
      go_wp2_with (first | (at_make; refine wpList_make_full _ rfl (.tmp 55) (.tmp 55) 56 rfl g 2 p2 _ 1 Try.underlying56 hp2 ha0 ha1 .i64 .i64 n n n rfl rfl rfl rfl (by rw [ha2]; omega) (by unfold maxLen; omega) (by omega) ?_; intro w3 o3 r3; have s3 := r3.size) | (at_make; refine wpList_make_full _ rfl (.tmp 58) (.tmp 58) 57 rfl g 21 p21 _ 1 Try.underlying57 hp21 hb0 hb1 .i64 .i64 n n n rfl rfl rfl rfl (by rw [hb2]; omega) (by unfold maxLen; omega) (by omega) ?_; intro w4 o4 r4; have s4 := r4.size) | (at_make; refine wpList_make_full _ rfl (.tmp 61) (.tmp 61) 58 rfl g 3 p3 _ 1 Try.underlying58 hp3 hc0 hc1 .i64 .i64 n n n rfl rfl rfl rfl (by rw [hc2]; omega) (by unfold maxLen; omega) (by omega) ?_; intro w5 o5 r5; have s5 := r5.size) | (at_make; refine wpList_make_full _ rfl (.tmp 64) (.tmp 64) 58 rfl g 3 p3 _ 1 Try.underlying58 hp3 hc0 hc1 .i64 .i64 n n n rfl rfl rfl rfl (by rw [hc2]; omega) (by unfold maxLen; omega) (by omega) ?_; intro w6 o6 r6; have s6 := r6.size))
      have b3 := below_grown0 r3
      have b4 := below_grown0 r4
      have b5 := below_grown0 r5
      have b6 := below_grown0 r6
      have k3 : w2.heap.size < w3.heap.size := (o3.lt _ rfl).2
      have k4 : w3.heap.size < w4.heap.size := (o4.lt _ rfl).2
      have k5 : w4.heap.size < w5.heap.size := (o5.lt _ rfl).2
      have k6 : w5.heap.size < w6.heap.size := (o6.lt _ rfl).2
      have HF0 : Fill w g w2.heap.size w3.heap.size w4.heap.size w5.heap.size n 0 r w6 := by
        refine ⟨((((HT2.below b3 hg2).below b4 (by omega)).below b5 (by omega)).below b6 (by omega)), ?_, ?_, ?_, ?_, (((hB3.trans (b3.mono (by omega))).trans (b4.mono (by omega))).trans (b5.mono (by omega))).trans (b6.mono (by omega))⟩
        · simpa using ((((ownI_made o3).below b4 (by omega)).below b5 (by omega)).below b6 (by omega))
        · simpa using (((ownI_made o4).below b5 (by omega)).below b6 (by omega))
        · simpa using ((ownI_made o5).below b6 (by omega))
        · simpa using (ownI_made o6)
      clear o3 o4 o5 o6 r3 r4 r5 r6 s3 s4 s5 s6 b3 b4 b5 b6 HT2 hB3
      obtain ⟨h0, e0⟩ : ∃ h, h = w2.heap.size := ⟨_, rfl⟩
      obtain ⟨h1, e1⟩ : ∃ h, h = w3.heap.size := ⟨_, rfl⟩
      obtain ⟨h2, e2⟩ : ∃ h, h = w4.heap.size := ⟨_, rfl⟩
      obtain ⟨h3, e3⟩ : ∃ h, h = w5.heap.size := ⟨_, rfl⟩
      rw [← e0] at hg2
      rw [← e0, ← e1] at k3
      rw [← e1, ← e2] at k4
      rw [← e2, ← e3] at k5
      rw [← e0, ← e1, ← e2, ← e3] at HF0 ⊢
      clear e0 e1 e2 e3 k6
      go_loopw [68] (fun x wx => ∃ k : Nat, k ≤ n ∧ x = .int .i64 (k : Int) ∧ Fill w g h0 h1 h2 h3 n k r wx) (fun x _ => n - (intOf x).toNat)
      case atStart => exact ⟨0, by omega, rfl, HF0⟩
      case round =>
        clear HF0
        obtain ⟨k, hk, rfl, HF⟩ := hrel
        by_cases hlt : k < n
        · have HS := HF.step hrl hlt hg2 k3 k4 k5
          obtain ⟨t0, t1, t2, t3⟩ := HF.t.at k (by omega)
          obtain ⟨v0, c0⟩ := HF.i0.atSome k (by simp; omega)
          obtain ⟨v1, c1⟩ := HF.i1.atSome k (by simp; omega)
          obtain ⟨v2, c2⟩ := HF.i2.atSome k (by simp; omega)
          obtain ⟨v3, c3⟩ := HF.i3.atSome k (by simp; omega)
          have z0 := HF.i0.frozen
          have z1 := HF.i1.frozen
          have z2 := HF.i2.frozen
          have z3 := HF.i3.frozen
          clear HF
          go_wp2
          go_roundw
          case rel => exact ⟨k + 1, by omega, by go_num, HS⟩
          case measure => simp [intOf]; omega
        · obtain rfl : n = k := by omega
          go_wp2
          refine bodyPost_ret (v := .tuple #[.slice (some ⟨h0, 0, none⟩) n n, .slice (some ⟨h1, 0, none⟩) n n, .slice (some ⟨h2, 0, none⟩) n n, .slice (some ⟨h3, 0, none⟩) n n]) (by simp [results, Try.results33]) rfl ⟨h0, h1, h2, h3, rfl, ?_, ?_⟩
          · rw [← HR.out]
            exact ⟨by have := HF.i0; rw [Nat.sub_self, List.take_of_length_le (by simp; omega)] at this; simpa using this, by have := HF.i1; rw [Nat.sub_self, List.take_of_length_le (by simp; omega)] at this; simpa using this, by have := HF.i2; rw [Nat.sub_self, List.take_of_length_le (by simp; omega)] at this; simpa using this, by have := HF.i3; rw [Nat.sub_self, List.take_of_length_le (by simp; omega)] at this; simpa using this⟩
          · rw [← HG.out]; exact HF.bel
end Go.Proofs.Qxb6003262a
