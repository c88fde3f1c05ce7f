/-
  The walks of ZZCodecPlace and zzCallPlace.
-/
import Derived.Test.Qxb6003262aPlace
import Derived.Deep.RegionHeld3
namespace Go.Proofs.Qxb6003262a
set_option linter.unusedVariables false
open Go.RowKit

/-- What the bytes zs read as, under the flags, behind a codec's state. -/
structure Rd (zs : List Int) (n : Nat) (ss st wh lt : Bool) (c0 c1 c2 c3 c4 S L T N A M d ds lb : Int) (i1 i2 i3 i4 i5 i6 : Nat) : Prop where
  H1 : ss = false → uv zs n 1 = (S, (i1 : Int)) ∧ -9223372036854775808 ≤ S ∧ S ≤ 9223372036854775807
  H1' : ss = true → i1 = 1 ∧ S = c2
  hd : -9223372036854775808 ≤ d ∧ d ≤ 9223372036854775807
  hds : -9223372036854775808 ≤ ds ∧ ds ≤ 9223372036854775807
  H2 : st = false → uv zs n i1 = (((zz d : Nat) : Int), (i2 : Int)) ∧ uv zs n i2 = (((zz ds : Nat) : Int), (i3 : Int))
  H2' : st = true → i3 = i1 ∧ d = c4 ∧ ds = c3
  hi : i1 ≤ n ∧ i2 ≤ n ∧ i3 ≤ n ∧ i4 ≤ n ∧ i5 ≤ n ∧ i6 ≤ n
  hL : wrap64 (c1 + d) = L
  hT : wrap64 (c0 + ds) = T
  hN : 0 ≤ N ∧ N ≤ 999999999
  hM : 0 ≤ M ∧ M ≤ 999999999
  hlb : 0 ≤ lb ∧ lb ≤ 9223372036854775807
  H4 : wh = false → uv zs n i3 = (N, (i4 : Int))
  H4' : wh = true → i4 = i3 ∧ N = 0
  H5 : lt = true → uv zs n i4 = (lb, (i5 : Int)) ∧ wrap64 (T - lb) = A
  H5' : lt = false → i6 = i4 ∧ A = T ∧ M = N
  H6 : lt = true → wh = false → uv zs n i5 = (M, (i6 : Int))
  H6' : lt = true → wh = true → i6 = i5 ∧ M = 0

/-- Blocks of five and of seven numbers. -/
def Blk5 (w : World) (B : Nat) (t : TypeId) (c0 c1 c2 c3 c4 : Int) : Prop := w.heap[B]? = some (.cells #[.int .i64 c0, .int .i64 c1, .int .i64 c2, .int .i64 c3, .int .i64 c4] t)
def Blk7 (w : World) (B : Nat) (t : TypeId) (p0 p1 p2 p3 p4 p5 p6 : Int) : Prop := w.heap[B]? = some (.cells #[.int .i64 p0, .int .i64 p1, .int .i64 p2, .int .i32 p3, .int .i64 p4, .int .i32 p5, .int .u8 p6] t)
theorem Blk5.facts {w : World} {C : Nat} {t : TypeId} {c0 c1 c2 c3 c4 : Int} (h : Blk5 w C t c0 c1 c2 c3 c4) :
    (w.cell? ⟨C, 0, none⟩ = some (.int .i64 c0) ∧ w.cell? ⟨C, 1, none⟩ = some (.int .i64 c1) ∧ w.cell? ⟨C, 2, none⟩ = some (.int .i64 c2) ∧ w.cell? ⟨C, 3, none⟩ = some (.int .i64 c3) ∧ w.cell? ⟨C, 4, none⟩ = some (.int .i64 c4)) ∧ (∀ j, w.frozen? ⟨C, j, none⟩ = false) := by
  refine ⟨⟨?_, ?_, ?_, ?_, ?_⟩, fun j => frozen_of_row w C j _ t h⟩
  all_goals (rw [cell_of_row w C _ _ t (0, 0) h]; rfl)
theorem Blk7.facts {w : World} {P : Nat} {t : TypeId} {p0 p1 p2 p3 p4 p5 p6 : Int} (h : Blk7 w P t p0 p1 p2 p3 p4 p5 p6) :
    (w.cell? ⟨P, 0, none⟩ = some (.int .i64 p0) ∧ w.cell? ⟨P, 1, none⟩ = some (.int .i64 p1) ∧ w.cell? ⟨P, 2, none⟩ = some (.int .i64 p2) ∧ w.cell? ⟨P, 3, none⟩ = some (.int .i32 p3) ∧ w.cell? ⟨P, 4, none⟩ = some (.int .i64 p4) ∧ w.cell? ⟨P, 5, none⟩ = some (.int .i32 p5) ∧ w.cell? ⟨P, 6, none⟩ = some (.int .u8 p6)) ∧ (∀ j, w.frozen? ⟨P, j, none⟩ = false) := by
  refine ⟨⟨?_, ?_, ?_, ?_, ?_, ?_, ?_⟩, fun j => frozen_of_row w P j _ t h⟩
  all_goals (rw [cell_of_row w P _ _ t (0, 0) h]; rfl)

theorem new_at {w : World} {o : Obj} {k : Nat} (h : k = w.heap.size) : (w.alloc o).heap[k]? = some o := by subst h; exact heap_alloc_new w o
theorem old_at {w : World} {o : Obj} {k : Nat} {x : Option Obj} (h : k < w.heap.size) (hx : w.heap[k]? = x) : (w.alloc o).heap[k]? = x := (Below.heap_alloc w o k h).trans hx

theorem place_rd {zs : List Int} {n : Nat} {ss st wh lt : Bool} {c0 c1 c2 c3 c4 S L T N A M d ds lb : Int} {i1 i2 i3 i4 i5 i6 : Nat} (hR : Rd zs n ss st wh lt c0 c1 c2 c3 c4 S L T N A M d ds lb i1 i2 i3 i4 i5 i6)
    (b off cp C P : Nat) (w : World) (p0 p1 p2 p3 p4 p5 p6 : Int)
    (hbC : b < C) (hCP : C < P) (hPS : PS w C P c0 c1 c2 c3 c4 p0 p1 p2 p3 p4 p5 p6) (hrow : Row8 w (some ⟨b, off, none⟩) n zs) (hn : 0 < n) (hn40 : n ≤ 1099511627776)
    (hf : w.cell? ⟨b, off, none⟩ = some (.int .u8 (fl ss st wh lt))) :
    Calls Try.prog 34 #[.pointer (some ⟨C, 0, none⟩), .slice (some ⟨b, off, none⟩) n cp, .pointer (some ⟨P, 0, none⟩)] w fun e w' =>
      e = .returned (.int .i64 (i6 : Int)) ∧ PS w' C P T L S ds d S L T N A M (fl ss st wh lt) ∧ Below C w w' :=
  place_any b off n cp C P zs w ss st wh lt c0 c1 c2 c3 c4 p0 p1 p2 p3 p4 p5 p6 S L T N A M d ds lb i1 i2 i3 i4 i5 i6 hbC hCP hPS hrow hn hn40 hf
    hR.H1 hR.H1' hR.hd hR.hds hR.H2 hR.H2' hR.hi hR.hL hR.hT hR.hN hR.hM hR.hlb hR.H4 hR.H4' hR.H5 hR.H5' hR.H6 hR.H6'

set_option maxHeartbeats 1000000 in
set_option maxRecDepth 20000 in
theorem zzplace {zs : List Int} {n : Nat} {ss st wh lt : Bool} {c0 c1 c2 c3 c4 S L T N A M d ds lb : Int} {i1 i2 i3 i4 i5 i6 : Nat} (hR : Rd zs n ss st wh lt c0 c1 c2 c3 c4 S L T N A M d ds lb i1 i2 i3 i4 i5 i6)
    (b off cp : Nat) (w : World) 
    (hrow : Row8 w (some ⟨b, off, none⟩) n zs) (hn : 0 < n) (hn40 : n ≤ 1099511627776) (hf : w.cell? ⟨b, off, none⟩ = some (.int .u8 (fl ss st wh lt))) :
    Calls Try.prog 30 #[.agg #[.int .i64 c0, .int .i64 c1, .int .i64 c2, .int .i64 c3, .int .i64 c4], .slice (some ⟨b, off, none⟩) n cp, .agg #[.int .i64 0, .int .i64 0, .int .i64 0, .int .i32 0, .int .i64 0, .int .i32 0, .int .u8 0]] w fun e w' =>
      e = .returned (.tuple #[.int .i64 (i6 : Int), .agg #[.int .i64 T, .int .i64 L, .int .i64 S, .int .i64 ds, .int .i64 d], .agg #[.int .i64 S, .int .i64 L, .int .i64 T, .int .i32 N, .int .i64 A, .int .i32 M, .int .u8 (fl ss st wh lt)]]) ∧ Below w.heap.size w w' := by
  have hb : b < w.heap.size := World.block_lt_of_cell? _ _ hf
  go_enter Try.func30, Try.ntmps30
  go_wp2_with fail
  obtain ⟨u, hu⟩ : ∃ u, u = ((((w.alloc (.cells #[.int .i64 c0, .int .i64 c1, .int .i64 c2, .int .i64 c3, .int .i64 c4] 47)).alloc (.cells #[.int .i64 0, .int .i64 0, .int .i64 0, .int .i32 0, .int .i64 0, .int .i32 0, .int .u8 0] 51)).alloc (.cells #[.int .i64 0, .int .i64 0, .int .i64 0, .int .i64 0, .int .i64 0] 47)).alloc (.cells #[.int .i64 0, .int .i64 0, .int .i64 0, .int .i32 0, .int .i64 0, .int .i32 0, .int .u8 0] 51)) := ⟨_, rfl⟩
  have hus : u.heap.size = w.heap.size + 1 + 1 + 1 + 1 := by rw [hu]; simp
  have hBu : Below w.heap.size w u := by
    rw [hu]; exact ((((Below.refl _ _).alloc (by simp) _).alloc (by simp) _).alloc (by simp; omega) _).alloc (by simp; omega) _
  have hu2 : Blk5 u (w.heap.size + 1 + 1) 47 0 0 0 0 0 := by rw [hu]; exact old_at (by simp) (new_at (by simp))
  have hu3 : Blk7 u (w.heap.size + 1 + 1 + 1) 51 0 0 0 0 0 0 0 := by rw [hu]; exact new_at (by simp)
  rw [← hu]
  clear hu
  obtain ⟨C, hC⟩ : ∃ C, C = w.heap.size + 1 + 1 + 1 + 1 := ⟨_, rfl⟩
  rw [← hC] at hus ⊢
  have hv : PS ((u.alloc (.cells #[.int .i64 c0, .int .i64 c1, .int .i64 c2, .int .i64 c3, .int .i64 c4] 62)).alloc (.cells #[.int .i64 0, .int .i64 0, .int .i64 0, .int .i32 0, .int .i64 0, .int .i32 0, .int .u8 0] 64)) C (C + 1) c0 c1 c2 c3 c4 0 0 0 0 0 0 0 := by
    exact ⟨old_at (by simp; omega) (new_at hus.symm), new_at (by simp; omega)⟩
  have hBv : Below w.heap.size w ((u.alloc (.cells #[.int .i64 c0, .int .i64 c1, .int .i64 c2, .int .i64 c3, .int .i64 c4] 62)).alloc (.cells #[.int .i64 0, .int .i64 0, .int .i64 0, .int .i32 0, .int .i64 0, .int .i32 0, .int .u8 0] 64)) := (hBu.alloc (by omega) _).alloc (by simp; omega) _
  obtain ⟨v, ev⟩ : ∃ v, v = ((u.alloc (.cells #[.int .i64 c0, .int .i64 c1, .int .i64 c2, .int .i64 c3, .int .i64 c4] 62)).alloc (.cells #[.int .i64 0, .int .i64 0, .int .i64 0, .int .i32 0, .int .i64 0, .int .i32 0, .int .u8 0] 64)) := ⟨_, rfl⟩
  have hv2 : Blk5 v (w.heap.size + 1 + 1) 47 0 0 0 0 0 := by rw [ev]; exact (Below.heap_alloc _ _ _ (by simp; omega)).trans ((Below.heap_alloc _ _ _ (by omega)).trans hu2)
  have hv3 : Blk7 v (w.heap.size + 1 + 1 + 1) 51 0 0 0 0 0 0 0 := by rw [ev]; exact (Below.heap_alloc _ _ _ (by simp; omega)).trans ((Below.heap_alloc _ _ _ (by omega)).trans hu3)
  rw [← ev] at hv hBv ⊢
  clear ev hu2 hu3 hus hBu
  refine (place_rd hR b off cp C (C + 1) v 0 0 0 0 0 0 0 (by omega) (by omega) hv (row8_below hrow hb hBv) hn hn40 ((hBv.cell (p := ⟨b, off, none⟩) hb).trans hf)).mono ?_
  rintro e w1 ⟨rfl, hP1, hB1⟩
  have h2 : Blk5 w1 (w.heap.size + 1 + 1) 47 0 0 0 0 0 := (hB1.block _ (by omega)).trans hv2
  have h3 : Blk7 w1 (w.heap.size + 1 + 1 + 1) 51 0 0 0 0 0 0 0 := (hB1.block _ (by omega)).trans hv3
  have hB2 : Below w.heap.size w w1 := hBv.trans (hB1.mono (by omega))
  clear hv hv2 hv3 hBv hB1 hrow hf hR
  obtain ⟨⟨qc0, qc1, qc2, qc3, qc4⟩, ⟨qp0, qp1, qp2, qp3, qp4, qp5, qp6⟩, fc, fp⟩ := hP1.facts
  obtain ⟨⟨rc0, rc1, rc2, rc3, rc4⟩, gc⟩ := h2.facts
  obtain ⟨⟨rp0, rp1, rp2, rp3, rp4, rp5, rp6⟩, gp⟩ := h3.facts
  have HC : Hid (C = w.heap.size + 1 + 1 + 1 + 1) := hC
  have hC' : w.heap.size + 1 + 1 + 1 < C := by omega
  clear hC hP1
  go_upto_region 4 with fail
  have n1 : ¬ (w.heap.size + 1 + 1 = C) := by omega
  have n2 : ¬ (w.heap.size + 1 + 1 = C + 1) := by omega
  have n3 : ¬ (w.heap.size + 1 + 1 + 1 = C) := by omega
  have n4 : ¬ (w.heap.size + 1 + 1 + 1 = C + 1) := by omega
  have n5 : ¬ (w.heap.size + 1 = C) := by omega
  go_region_held3 (fun w' => w'.cell? ⟨C, 0, none⟩ = some (.int .i64 T) ∧ w'.cell? ⟨C, 1, none⟩ = some (.int .i64 L) ∧ w'.cell? ⟨C, 2, none⟩ = some (.int .i64 S) ∧ w'.cell? ⟨C, 3, none⟩ = some (.int .i64 ds) ∧ w'.cell? ⟨C, 4, none⟩ = some (.int .i64 d) ∧ w'.cell? ⟨C + 1, 0, none⟩ = some (.int .i64 S) ∧ w'.cell? ⟨C + 1, 1, none⟩ = some (.int .i64 L) ∧ w'.cell? ⟨C + 1, 2, none⟩ = some (.int .i64 T) ∧ w'.cell? ⟨C + 1, 3, none⟩ = some (.int .i32 N) ∧ w'.cell? ⟨C + 1, 4, none⟩ = some (.int .i64 A) ∧ w'.cell? ⟨C + 1, 5, none⟩ = some (.int .i32 M) ∧ w'.cell? ⟨C + 1, 6, none⟩ = some (.int .u8 (fl ss st wh lt))) (go_keep) (fail)
  all_goals go_wp2
  all_goals
    refine bodyPost_ret (v := .tuple #[.int .i64 (i6 : Int), .agg #[.int .i64 T, .int .i64 L, .int .i64 S, .int .i64 ds, .int .i64 d], .agg #[.int .i64 S, .int .i64 L, .int .i64 T, .int .i32 N, .int .i64 A, .int .i32 M, .int .u8 (fl ss st wh lt)]]) ?_ rfl ⟨rfl, ?_⟩
    · simp [results, Try.results30, go_sem, rc0, rc1, rc2, rc3, rc4, rp0, rp1, rp2, rp3, rp4, rp5, rp6]
    · refine Below.drew ?_
      iterate 12 refine Below.setCell ?_ (by dsimp only; omega) _
      exact hB2

set_option maxHeartbeats 1000000 in
set_option maxRecDepth 20000 in
theorem callplace {zs : List Int} {n : Nat} {ss st wh lt : Bool} {c0 c1 c2 c3 c4 S L T N A M d ds lb : Int} {i1 i2 i3 i4 i5 i6 : Nat} (hR : Rd zs n ss st wh lt c0 c1 c2 c3 c4 S L T N A M d ds lb i1 i2 i3 i4 i5 i6)
    (b off cp : Nat) (w : World)
    (hrow : Row8 w (some ⟨b, off, none⟩) n zs) (hn : 0 < n) (hn40 : n ≤ 1099511627776) (hf : w.cell? ⟨b, off, none⟩ = some (.int .u8 (fl ss st wh lt))) :
    Calls Try.prog 19 #[.agg #[.int .i64 c0, .int .i64 c1, .int .i64 c2, .int .i64 c3, .int .i64 c4], .slice (some ⟨b, off, none⟩) n cp, .agg #[.int .i64 0, .int .i64 0, .int .i64 0, .int .i32 0, .int .i64 0, .int .i32 0, .int .u8 0]] w fun e w' =>
      e = .returned (.tuple #[.int .i64 (i6 : Int), .agg #[.int .i64 T, .int .i64 L, .int .i64 S, .int .i64 ds, .int .i64 d], .agg #[.int .i64 S, .int .i64 L, .int .i64 T, .int .i32 N, .int .i64 A, .int .i32 M, .int .u8 (fl ss st wh lt)]]) ∧ Below w.heap.size w w' := by
  have hb : b < w.heap.size := World.block_lt_of_cell? _ _ hf
  go_enter Try.func19, Try.ntmps19
  go_wp2_with fail
  obtain ⟨u, hu⟩ : ∃ u, u = ((((w.alloc (.cells #[.int .i64 c0, .int .i64 c1, .int .i64 c2, .int .i64 c3, .int .i64 c4] 31)).alloc (.cells #[.int .i64 0, .int .i64 0, .int .i64 0, .int .i32 0, .int .i64 0, .int .i32 0, .int .u8 0] 35)).alloc (.cells #[.int .i64 0, .int .i64 0, .int .i64 0, .int .i64 0, .int .i64 0] 31)).alloc (.cells #[.int .i64 0, .int .i64 0, .int .i64 0, .int .i32 0, .int .i64 0, .int .i32 0, .int .u8 0] 35)) := ⟨_, rfl⟩
  have hus : u.heap.size = w.heap.size + 1 + 1 + 1 + 1 := by rw [hu]; simp
  have hBu : Below w.heap.size w u := by
    rw [hu]; exact ((((Below.refl _ _).alloc (by simp) _).alloc (by simp) _).alloc (by simp; omega) _).alloc (by simp; omega) _
  have hu2 : Blk5 u (w.heap.size + 1 + 1) 31 0 0 0 0 0 := by rw [hu]; exact old_at (by simp) (new_at (by simp))
  have hu3 : Blk7 u (w.heap.size + 1 + 1 + 1) 35 0 0 0 0 0 0 0 := by rw [hu]; exact new_at (by simp)
  rw [← hu]
  clear hu
  refine (zzplace hR b off cp u (row8_below hrow hb hBu) hn hn40 ((hBu.cell (p := ⟨b, off, none⟩) hb).trans hf)).mono ?_
  rintro e w1 ⟨rfl, hB1⟩
  have h2 : Blk5 w1 (w.heap.size + 1 + 1) 31 0 0 0 0 0 := (hB1.block _ (by omega)).trans hu2
  have h3 : Blk7 w1 (w.heap.size + 1 + 1 + 1) 35 0 0 0 0 0 0 0 := (hB1.block _ (by omega)).trans hu3
  have hB2 : Below w.heap.size w w1 := hBu.trans (hB1.mono (by omega))
  have hsz : w.heap.size + 1 + 1 + 1 < w1.heap.size := by have := hB1.size; omega
  clear hu2 hu3 hus hBu hB1 hrow hf hR
  go_upto_region 4 with fail
  obtain ⟨v, hv⟩ : ∃ v, v = ((((w1.alloc (.cells #[.int .i64 T, .int .i64 L, .int .i64 S, .int .i64 ds, .int .i64 d] 47)).alloc (.cells #[.int .i64 S, .int .i64 L, .int .i64 T, .int .i32 N, .int .i64 A, .int .i32 M, .int .u8 (fl ss st wh lt)] 51)).alloc (.cells #[.int .i64 T, .int .i64 L, .int .i64 S, .int .i64 ds, .int .i64 d] 31)).alloc (.cells #[.int .i64 S, .int .i64 L, .int .i64 T, .int .i32 N, .int .i64 A, .int .i32 M, .int .u8 (fl ss st wh lt)] 35)) := ⟨_, rfl⟩
  have hB3 : Below w.heap.size w v := by
    rw [hv]; exact (((hB2.alloc (by omega) _).alloc (by simp; omega) _).alloc (by simp; omega) _).alloc (by simp; omega) _
  have v2 : Blk5 v (w.heap.size + 1 + 1) 31 0 0 0 0 0 := by rw [hv]; exact old_at (by simp; omega) (old_at (by simp; omega) (old_at (by simp; omega) (old_at (by omega) h2)))
  have v3 : Blk7 v (w.heap.size + 1 + 1 + 1) 35 0 0 0 0 0 0 0 := by rw [hv]; exact old_at (by simp; omega) (old_at (by simp; omega) (old_at (by simp; omega) (old_at (by omega) h3)))
  have v4 : Blk5 v (w1.heap.size + 1 + 1) 31 T L S ds d := by rw [hv]; exact old_at (by simp) (new_at (by simp))
  have v5 : Blk7 v (w1.heap.size + 1 + 1 + 1) 35 S L T N A M (fl ss st wh lt) := by rw [hv]; exact new_at (by simp)
  rw [← hv]
  clear hv h2 h3 hB2
  obtain ⟨D, hD⟩ : ∃ D, D = w1.heap.size + 1 + 1 := ⟨_, rfl⟩
  rw [← hD] at v4 v5 ⊢
  have hD' : w.heap.size + 1 + 1 + 1 < D := by omega
  clear hD hsz
  obtain ⟨⟨qc0, qc1, qc2, qc3, qc4⟩, fc⟩ := v4.facts
  obtain ⟨⟨qp0, qp1, qp2, qp3, qp4, qp5, qp6⟩, fp⟩ := v5.facts
  obtain ⟨⟨rc0, rc1, rc2, rc3, rc4⟩, gc⟩ := v2.facts
  obtain ⟨⟨rp0, rp1, rp2, rp3, rp4, rp5, rp6⟩, gp⟩ := v3.facts
  clear v2 v3 v4 v5
  have n1 : ¬ (w.heap.size + 1 + 1 = D) := by omega
  have n2 : ¬ (w.heap.size + 1 + 1 = D + 1) := by omega
  have n3 : ¬ (w.heap.size + 1 + 1 + 1 = D) := by omega
  have n4 : ¬ (w.heap.size + 1 + 1 + 1 = D + 1) := by omega
  have n5 : ¬ (w.heap.size + 1 = D) := by omega
  go_region_held3 (fun w' => w'.cell? ⟨D, 0, none⟩ = some (.int .i64 T) ∧ w'.cell? ⟨D, 1, none⟩ = some (.int .i64 L) ∧ w'.cell? ⟨D, 2, none⟩ = some (.int .i64 S) ∧ w'.cell? ⟨D, 3, none⟩ = some (.int .i64 ds) ∧ w'.cell? ⟨D, 4, none⟩ = some (.int .i64 d) ∧ w'.cell? ⟨D + 1, 0, none⟩ = some (.int .i64 S) ∧ w'.cell? ⟨D + 1, 1, none⟩ = some (.int .i64 L) ∧ w'.cell? ⟨D + 1, 2, none⟩ = some (.int .i64 T) ∧ w'.cell? ⟨D + 1, 3, none⟩ = some (.int .i32 N) ∧ w'.cell? ⟨D + 1, 4, none⟩ = some (.int .i64 A) ∧ w'.cell? ⟨D + 1, 5, none⟩ = some (.int .i32 M) ∧ w'.cell? ⟨D + 1, 6, none⟩ = some (.int .u8 (fl ss st wh lt))) (go_keep) (fail)
  all_goals go_wp2
  all_goals
    refine bodyPost_ret (v := .tuple #[.int .i64 (i6 : Int), .agg #[.int .i64 T, .int .i64 L, .int .i64 S, .int .i64 ds, .int .i64 d], .agg #[.int .i64 S, .int .i64 L, .int .i64 T, .int .i32 N, .int .i64 A, .int .i32 M, .int .u8 (fl ss st wh lt)]]) ?_ rfl ⟨rfl, ?_⟩
    · simp [results, Try.results19, go_sem, rc0, rc1, rc2, rc3, rc4, rp0, rp1, rp2, rp3, rp4, rp5, rp6]
    · refine Below.drew ?_
      iterate 12 refine Below.setCell ?_ (by dsimp only; omega) _
      exact hB3
end Go.Proofs.Qxb6003262a
