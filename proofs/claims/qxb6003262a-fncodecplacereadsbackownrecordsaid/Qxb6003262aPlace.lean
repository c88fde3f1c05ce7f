/-
  The walk of (*codec).place.
-/
import Derived.Test.Qxb6003262aRecWalks
import Derived.RegionTactic
import Derived.BigRegion
import Derived.Deep.CutRange
namespace Go.Proofs.Qxb6003262a
set_option linter.unusedVariables false
open Go.RowKit

/-- A codec at block C, a place at block P. -/
def PS (w : World) (C P : Nat) (c0 c1 c2 c3 c4 p0 p1 p2 p3 p4 p5 p6 : Int) : Prop :=
  w.heap[C]? = some (.cells #[.int .i64 c0, .int .i64 c1, .int .i64 c2, .int .i64 c3, .int .i64 c4] 62) ∧
  w.heap[P]? = some (.cells #[.int .i64 p0, .int .i64 p1, .int .i64 p2, .int .i32 p3, .int .i64 p4, .int .i32 p5, .int .u8 p6] 64)

theorem PS.facts {w : World} {C P : Nat} {c0 c1 c2 c3 c4 p0 p1 p2 p3 p4 p5 p6 : Int} (h : PS w C P c0 c1 c2 c3 c4 p0 p1 p2 p3 p4 p5 p6) :
    (w.cell? ⟨C, 0, none⟩ = some (.int .i64 c0) ∧ w.cell? ⟨C, 1, none⟩ = some (.int .i64 c1) ∧ w.cell? ⟨C, 2, none⟩ = some (.int .i64 c2) ∧ w.cell? ⟨C, 3, none⟩ = some (.int .i64 c3) ∧ w.cell? ⟨C, 4, none⟩ = some (.int .i64 c4)) ∧
    (w.cell? ⟨P, 0, none⟩ = some (.int .i64 p0) ∧ w.cell? ⟨P, 1, none⟩ = some (.int .i64 p1) ∧ w.cell? ⟨P, 2, none⟩ = some (.int .i64 p2) ∧ w.cell? ⟨P, 3, none⟩ = some (.int .i32 p3) ∧ w.cell? ⟨P, 4, none⟩ = some (.int .i64 p4) ∧ w.cell? ⟨P, 5, none⟩ = some (.int .i32 p5) ∧ w.cell? ⟨P, 6, none⟩ = some (.int .u8 p6)) ∧
    (∀ j, w.frozen? ⟨C, j, none⟩ = false) ∧ (∀ j, w.frozen? ⟨P, j, none⟩ = false) := by
  obtain ⟨hC, hP⟩ := h
  refine ⟨⟨?_, ?_, ?_, ?_, ?_⟩, ⟨?_, ?_, ?_, ?_, ?_, ?_, ?_⟩, fun j => frozen_of_row w C j _ 62 hC, fun j => frozen_of_row w P j _ 64 hP⟩
  all_goals first | (rw [cell_of_row w C _ _ 62 (0, 0) hC]; rfl) | (rw [cell_of_row w P _ _ 64 (0, 0) hP]; rfl)

theorem PS.c0 {w : World} {C P : Nat} {c0 c1 c2 c3 c4 p0 p1 p2 p3 p4 p5 p6 : Int} (h : PS w C P c0 c1 c2 c3 c4 p0 p1 p2 p3 p4 p5 p6) (hne : C < P) (x : Int) : PS (w.setCell ⟨C, 0, none⟩ (.int .i64 x)) C P x c1 c2 c3 c4 p0 p1 p2 p3 p4 p5 p6 :=
  ⟨heap_setCell_same w C 0 _ 62 _ h.1, (heap_setCell_other w ⟨C, 0, none⟩ P _ (by show P ≠ C; omega)).trans h.2⟩
theorem PS.c1 {w : World} {C P : Nat} {c0 c1 c2 c3 c4 p0 p1 p2 p3 p4 p5 p6 : Int} (h : PS w C P c0 c1 c2 c3 c4 p0 p1 p2 p3 p4 p5 p6) (hne : C < P) (x : Int) : PS (w.setCell ⟨C, 1, none⟩ (.int .i64 x)) C P c0 x c2 c3 c4 p0 p1 p2 p3 p4 p5 p6 :=
  ⟨heap_setCell_same w C 1 _ 62 _ h.1, (heap_setCell_other w ⟨C, 1, none⟩ P _ (by show P ≠ C; omega)).trans h.2⟩
theorem PS.c2 {w : World} {C P : Nat} {c0 c1 c2 c3 c4 p0 p1 p2 p3 p4 p5 p6 : Int} (h : PS w C P c0 c1 c2 c3 c4 p0 p1 p2 p3 p4 p5 p6) (hne : C < P) (x : Int) : PS (w.setCell ⟨C, 2, none⟩ (.int .i64 x)) C P c0 c1 x c3 c4 p0 p1 p2 p3 p4 p5 p6 :=
  ⟨heap_setCell_same w C 2 _ 62 _ h.1, (heap_setCell_other w ⟨C, 2, none⟩ P _ (by show P ≠ C; omega)).trans h.2⟩
theorem PS.c3 {w : World} {C P : Nat} {c0 c1 c2 c3 c4 p0 p1 p2 p3 p4 p5 p6 : Int} (h : PS w C P c0 c1 c2 c3 c4 p0 p1 p2 p3 p4 p5 p6) (hne : C < P) (x : Int) : PS (w.setCell ⟨C, 3, none⟩ (.int .i64 x)) C P c0 c1 c2 x c4 p0 p1 p2 p3 p4 p5 p6 :=
  ⟨heap_setCell_same w C 3 _ 62 _ h.1, (heap_setCell_other w ⟨C, 3, none⟩ P _ (by show P ≠ C; omega)).trans h.2⟩
theorem PS.c4 {w : World} {C P : Nat} {c0 c1 c2 c3 c4 p0 p1 p2 p3 p4 p5 p6 : Int} (h : PS w C P c0 c1 c2 c3 c4 p0 p1 p2 p3 p4 p5 p6) (hne : C < P) (x : Int) : PS (w.setCell ⟨C, 4, none⟩ (.int .i64 x)) C P c0 c1 c2 c3 x p0 p1 p2 p3 p4 p5 p6 :=
  ⟨heap_setCell_same w C 4 _ 62 _ h.1, (heap_setCell_other w ⟨C, 4, none⟩ P _ (by show P ≠ C; omega)).trans h.2⟩
theorem PS.p0 {w : World} {C P : Nat} {c0 c1 c2 c3 c4 p0 p1 p2 p3 p4 p5 p6 : Int} (h : PS w C P c0 c1 c2 c3 c4 p0 p1 p2 p3 p4 p5 p6) (hne : C < P) (x : Int) : PS (w.setCell ⟨P, 0, none⟩ (.int .i64 x)) C P c0 c1 c2 c3 c4 x p1 p2 p3 p4 p5 p6 :=
  ⟨(heap_setCell_other w ⟨P, 0, none⟩ C _ (by show C ≠ P; omega)).trans h.1, heap_setCell_same w P 0 _ 64 _ h.2⟩
theorem PS.p1 {w : World} {C P : Nat} {c0 c1 c2 c3 c4 p0 p1 p2 p3 p4 p5 p6 : Int} (h : PS w C P c0 c1 c2 c3 c4 p0 p1 p2 p3 p4 p5 p6) (hne : C < P) (x : Int) : PS (w.setCell ⟨P, 1, none⟩ (.int .i64 x)) C P c0 c1 c2 c3 c4 p0 x p2 p3 p4 p5 p6 :=
  ⟨(heap_setCell_other w ⟨P, 1, none⟩ C _ (by show C ≠ P; omega)).trans h.1, heap_setCell_same w P 1 _ 64 _ h.2⟩
theorem PS.p2 {w : World} {C P : Nat} {c0 c1 c2 c3 c4 p0 p1 p2 p3 p4 p5 p6 : Int} (h : PS w C P c0 c1 c2 c3 c4 p0 p1 p2 p3 p4 p5 p6) (hne : C < P) (x : Int) : PS (w.setCell ⟨P, 2, none⟩ (.int .i64 x)) C P c0 c1 c2 c3 c4 p0 p1 x p3 p4 p5 p6 :=
  ⟨(heap_setCell_other w ⟨P, 2, none⟩ C _ (by show C ≠ P; omega)).trans h.1, heap_setCell_same w P 2 _ 64 _ h.2⟩
theorem PS.p3 {w : World} {C P : Nat} {c0 c1 c2 c3 c4 p0 p1 p2 p3 p4 p5 p6 : Int} (h : PS w C P c0 c1 c2 c3 c4 p0 p1 p2 p3 p4 p5 p6) (hne : C < P) (x : Int) : PS (w.setCell ⟨P, 3, none⟩ (.int .i32 x)) C P c0 c1 c2 c3 c4 p0 p1 p2 x p4 p5 p6 :=
  ⟨(heap_setCell_other w ⟨P, 3, none⟩ C _ (by show C ≠ P; omega)).trans h.1, heap_setCell_same w P 3 _ 64 _ h.2⟩
theorem PS.p4 {w : World} {C P : Nat} {c0 c1 c2 c3 c4 p0 p1 p2 p3 p4 p5 p6 : Int} (h : PS w C P c0 c1 c2 c3 c4 p0 p1 p2 p3 p4 p5 p6) (hne : C < P) (x : Int) : PS (w.setCell ⟨P, 4, none⟩ (.int .i64 x)) C P c0 c1 c2 c3 c4 p0 p1 p2 p3 x p5 p6 :=
  ⟨(heap_setCell_other w ⟨P, 4, none⟩ C _ (by show C ≠ P; omega)).trans h.1, heap_setCell_same w P 4 _ 64 _ h.2⟩
theorem PS.p5 {w : World} {C P : Nat} {c0 c1 c2 c3 c4 p0 p1 p2 p3 p4 p5 p6 : Int} (h : PS w C P c0 c1 c2 c3 c4 p0 p1 p2 p3 p4 p5 p6) (hne : C < P) (x : Int) : PS (w.setCell ⟨P, 5, none⟩ (.int .i32 x)) C P c0 c1 c2 c3 c4 p0 p1 p2 p3 p4 x p6 :=
  ⟨(heap_setCell_other w ⟨P, 5, none⟩ C _ (by show C ≠ P; omega)).trans h.1, heap_setCell_same w P 5 _ 64 _ h.2⟩
theorem PS.p6 {w : World} {C P : Nat} {c0 c1 c2 c3 c4 p0 p1 p2 p3 p4 p5 p6 : Int} (h : PS w C P c0 c1 c2 c3 c4 p0 p1 p2 p3 p4 p5 p6) (hne : C < P) (x : Int) : PS (w.setCell ⟨P, 6, none⟩ (.int .u8 x)) C P c0 c1 c2 c3 c4 p0 p1 p2 p3 p4 p5 x :=
  ⟨(heap_setCell_other w ⟨P, 6, none⟩ C _ (by show C ≠ P; omega)).trans h.1, heap_setCell_same w P 6 _ 64 _ h.2⟩

theorem row8_below {w wr : World} {b off n C : Nat} {zs : List Int} (h : Row8 w (some ⟨b, off, none⟩) n zs) (hb : b < C) (hB : Below C w wr) : Row8 wr (some ⟨b, off, none⟩) n zs := by
  obtain ⟨h1, h2, h3 | ⟨b', off', e, h3⟩⟩ := h
  · exact ⟨h1, h2, .inl h3⟩
  · simp only [Option.some.injEq, Addr.mk.injEq, and_true] at e
    obtain ⟨rfl, rfl⟩ := e
    exact ⟨h1, h2, .inr ⟨b, off, rfl, fun j hj => (hB.cell (p := ⟨b, off + j, none⟩) hb).trans (h3 j hj)⟩⟩

/-- The flags. -/
def fl (ss st wh lt : Bool) : Int := (if ss then 64 else 0) + (if st then 128 else 0) + (if wh then 8 else 0) + (if lt then 4 else 0)
theorem fl64 (ss st wh lt : Bool) : (bits .and .u8 (fl ss st wh lt) 64 == 0) = !ss := by revert ss st wh lt; decide
theorem fl128 (ss st wh lt : Bool) : (bits .and .u8 (fl ss st wh lt) 128 == 0) = !st := by revert ss st wh lt; decide
theorem fl8 (ss st wh lt : Bool) : (bits .and .u8 (fl ss st wh lt) 8 == 0) = !wh := by revert ss st wh lt; decide
theorem fl4 (ss st wh lt : Bool) : (bits .and .u8 (fl ss st wh lt) 4 != 0) = lt := by revert ss st wh lt; decide

set_option maxHeartbeats 1000000 in
set_option maxRecDepth 20000 in
theorem place_any (b off n cp C P : Nat) (zs : List Int) (w : World) (ss st wh lt : Bool) (c0 c1 c2 c3 c4 p0 p1 p2 p3 p4 p5 p6 : Int) (S L T N A M d ds lb : Int) (i1 i2 i3 i4 i5 i6 : Nat)
    (hbC : b < C) (hCP : C < P) (hPS : PS w C P c0 c1 c2 c3 c4 p0 p1 p2 p3 p4 p5 p6) (hrow : Row8 w (some ⟨b, off, none⟩) n zs) (hn : 0 < n) (hn40 : n ≤ 1099511627776)
    (hf : w.cell? ⟨b, off, none⟩ = some (.int .u8 (fl ss st wh lt)))
    (H1 : ss = false → uv zs n 1 = (S, (i1 : Int)) ∧ -9223372036854775808 ≤ S ∧ S ≤ 9223372036854775807) (H1' : ss = true → i1 = 1 ∧ S = c2)
    (hd : -9223372036854775808 ≤ d ∧ d ≤ 9223372036854775807) (hds : -9223372036854775808 ≤ ds ∧ ds ≤ 9223372036854775807)
    (H2 : st = false → uv zs n i1 = (((zz d : Nat) : Int), (i2 : Int)) ∧ uv zs n i2 = (((zz ds : Nat) : Int), (i3 : Int))) (H2' : st = true → i3 = i1 ∧ d = c4 ∧ ds = c3)
    (hi : i1 ≤ n ∧ i2 ≤ n ∧ i3 ≤ n ∧ i4 ≤ n ∧ i5 ≤ n ∧ i6 ≤ n)
    (hL : wrap64 (c1 + d) = L) (hT : wrap64 (c0 + ds) = T)
    (hN : 0 ≤ N ∧ N ≤ 999999999) (hM : 0 ≤ M ∧ M ≤ 999999999) (hlb : 0 ≤ lb ∧ lb ≤ 9223372036854775807)
    (H4 : wh = false → uv zs n i3 = (N, (i4 : Int))) (H4' : wh = true → i4 = i3 ∧ N = 0)
    (H5 : lt = true → uv zs n i4 = (lb, (i5 : Int)) ∧ wrap64 (T - lb) = A) (H5' : lt = false → i6 = i4 ∧ A = T ∧ M = N)
    (H6 : lt = true → wh = false → uv zs n i5 = (M, (i6 : Int))) (H6' : lt = true → wh = true → i6 = i5 ∧ M = 0) :
    Calls Try.prog 34 #[.pointer (some ⟨C, 0, none⟩), .slice (some ⟨b, off, none⟩) n cp, .pointer (some ⟨P, 0, none⟩)] w fun e w' =>
      e = .returned (.int .i64 (i6 : Int)) ∧ PS w' C P T L S ds d S L T N A M (fl ss st wh lt) ∧ Below C w w' := by
  obtain ⟨f, ef⟩ : ∃ f, f = fl ss st wh lt := ⟨_, rfl⟩
  have F64 : (bits .and .u8 f 64 == 0) = !ss := by rw [ef]; exact fl64 ..
  have F128 : (bits .and .u8 f 128 == 0) = !st := by rw [ef]; exact fl128 ..
  have F8 : (bits .and .u8 f 8 == 0) = !wh := by rw [ef]; exact fl8 ..
  have F4 : (bits .and .u8 f 4 != 0) = lt := by rw [ef]; exact fl4 ..
  rw [← ef] at hf ⊢
  clear ef
  obtain ⟨⟨qc0, qc1, qc2, qc3, qc4⟩, ⟨qp0, qp1, qp2, qp3, qp4, qp5, qp6⟩, fc, fp⟩ := hPS.facts
  go_enter Try.func34, Try.ntmps34
  go_upto_if 29 with fail
  have hPS1 := (hPS.p6 hCP f).p0 hCP c2
  have hB1 : Below C w ((w.setCell ⟨P, 6, none⟩ (.int .u8 f)).setCell ⟨P, 0, none⟩ (.int .i64 c2)) := ((Below.refl _ _).setCell (by show C ≤ P; omega) _).setCell (by show C ≤ P; omega) _
  clear hPS qc0 qc1 qc2 qc3 qc4 qp0 qp1 qp2 qp3 qp4 qp5 qp6 fc fp
  go_cut [8] from 10 (fun s8 wc => s8 = .int .i64 (i1 : Int) ∧ PS wc C P c0 c1 c2 c3 c4 S p1 p2 p3 p4 p5 f ∧ Below C w wc)
  case first =>
    cases ss
    · obtain ⟨hu, hs0, hs1⟩ := H1 rfl
      have HU : Hid (uv zs n 1 = (S, (i1 : Int))) := hu
      have hrow1 := row8_below hrow hbC hB1
      obtain ⟨⟨qc0, qc1, qc2, qc3, qc4⟩, ⟨qp0, qp1, qp2, qp3, qp4, qp5, qp6⟩, fc, fp⟩ := hPS1.facts
      clear hu
      go_wp2_with (go_at_call 29; refine (uvarint_row _ n cp zs 1 _ (by omega) hrow1).mono ?_; rintro e w' ⟨rfl, rfl⟩; rw [HU.out])
      go_meet
      case rel => exact ⟨rfl, hPS1.p0 hCP S, hB1.setCell (by show C ≤ P; omega) _⟩
    · obtain ⟨rfl, rfl⟩ := H1' rfl
      go_wp2
      go_meet
      case rel => exact ⟨rfl, hPS1, hB1⟩
  case rest =>
    obtain ⟨rfl, hPS2, hB2⟩ := hcut
    clear hPS1 hB1 hf F64 H1 H1'
    go_upto_if 43 with fail
    go_cut [8] from 10 (fun s8 wc => s8 = .int .i64 (i3 : Int) ∧ PS wc C P c0 c1 c2 ds d S p1 p2 p3 p4 p5 f ∧ Below C w wc)
    case first =>
      cases st
      · obtain ⟨hu1, hu2⟩ := H2 rfl
        have HU1 : Hid (uv zs n i1 = (((zz d : Nat) : Int), (i2 : Int))) := hu1
        have HU2 : Hid (uv zs n i2 = (((zz ds : Nat) : Int), (i3 : Int))) := hu2
        have hB3 : Below C w (wc.setCell ⟨C, 4, none⟩ (.int .i64 d)) := hB2.setCell (Nat.le_refl _) _
        have hrow1 := row8_below hrow hbC hB2
        have hrow2 := row8_below hrow hbC hB3
        obtain ⟨⟨qc0, qc1, qc2, qc3, qc4⟩, ⟨qp0, qp1, qp2, qp3, qp4, qp5, qp6⟩, fc, fp⟩ := hPS2.facts
        have hPS3 := (hPS2.c4 hCP d).c3 hCP ds
        clear hu1 hu2 H2 H2' F128 F8 F4 hL hT H4 H4' H5 H5' H6 H6'
        go_wp2_with fail
        refine (uvarint_row _ n cp zs i1 _ (by omega) hrow1).mono ?_
        rintro e w' ⟨rfl, rfl⟩
        rw [HU1.out]
        go_wp2_with fail
        refine (unzig_any d _ hd.1 hd.2).mono ?_
        rintro e w' ⟨rfl, rfl⟩
        go_wp2_with fail
        refine (uvarint_row _ n cp zs i2 _ (by omega) hrow2).mono ?_
        rintro e w' ⟨rfl, rfl⟩
        rw [HU2.out]
        go_wp2_with fail
        refine (unzig_any ds _ hds.1 hds.2).mono ?_
        rintro e w' ⟨rfl, rfl⟩
        go_wp2_with fail
        go_meet
        case rel => exact ⟨rfl, hPS3, hB3.setCell (Nat.le_refl _) _⟩
      · obtain ⟨rfl, rfl, rfl⟩ := H2' rfl
        go_wp2
        go_meet
        case rel => exact ⟨rfl, hPS2, hB2⟩
    case rest =>
      obtain ⟨rfl, hPS3, hB3⟩ := hcut
      clear hPS2 hB2 F128 H2 H2'
      obtain ⟨⟨qc0, qc1, qc2, qc3, qc4⟩, ⟨qp0, qp1, qp2, qp3, qp4, qp5, qp6⟩, fc, fp⟩ := hPS3.facts
      go_upto_region 16 with fail
      go_cut [8] from 10 (fun s8 wc => s8 = .int .i64 (i3 : Int) ∧ PS wc C P c0 c1 c2 ds d S L p2 p3 p4 p5 f ∧ Below C w wc)
      case first =>
        have hR := hPS3.p1 hCP L
        have hBR : Below C w (wc.setCell ⟨P, 1, none⟩ (.int .i64 L)) := hB3.setCell (by show C ≤ P; omega) _
        clear F8 F4 hT H4 H4' H5 H5' H6 H6' hrow
        go_region
        all_goals (go_wp2_with fail; go_meet)
        all_goals exact ⟨rfl, hR, hBR.drew⟩
      case rest =>
        obtain ⟨rfl, hPS4, hB4⟩ := hcut
        clear hPS3 hB3 hL qc0 qc1 qc2 qc3 qc4 qp0 qp1 qp2 qp3 qp4 qp5 qp6 fc fp
        obtain ⟨⟨qc0, qc1, qc2, qc3, qc4⟩, ⟨qp0, qp1, qp2, qp3, qp4, qp5, qp6⟩, fc, fp⟩ := hPS4.facts
        go_upto_region 17 with fail
        go_cut [8] from 10 (fun s8 wc => s8 = .int .i64 (i3 : Int) ∧ PS wc C P c0 c1 c2 ds d S L T 0 p4 p5 f ∧ Below C w wc)
        case first =>
          clear F8 F4 H4 H4' H5 H5' H6 H6' hrow
          have hR := (hPS4.p2 hCP T).p3 hCP 0
          have hBR : Below C w ((wc.setCell ⟨P, 2, none⟩ (.int .i64 T)).setCell ⟨P, 3, none⟩ (.int .i32 0)) := (hB4.setCell (by show C ≤ P; omega) _).setCell (by show C ≤ P; omega) _
          go_region
          all_goals (go_wp2_with fail; go_meet)
          all_goals exact ⟨rfl, hR, hBR.drew⟩
        case rest =>
          obtain ⟨rfl, hPS5, hB5⟩ := hcut
          clear hPS4 hB4 hT qc0 qc1 qc2 qc3 qc4 qp0 qp1 qp2 qp3 qp4 qp5 qp6 fc fp
          obtain ⟨⟨qc0, qc1, qc2, qc3, qc4⟩, ⟨qp0, qp1, qp2, qp3, qp4, qp5, qp6⟩, fc, fp⟩ := hPS5.facts
          go_upto_if 93 with fail
          go_cut [8] from 10 (fun s8 wc => s8 = .int .i64 (i4 : Int) ∧ PS wc C P c0 c1 c2 ds d S L T N p4 p5 f ∧ Below C w wc)
          case first =>
            cases wh
            · have HU : Hid (uv zs n i3 = (N, (i4 : Int))) := H4 rfl
              have hrow1 := row8_below hrow hbC hB5
              have hR := hPS5.p3 hCP N
              clear F8 F4 H4 H4' H5 H5' H6 H6' hPS5
              go_wp2_with fail
              refine (uvarint_row _ n cp zs i3 _ (by omega) hrow1).mono ?_
              rintro e w' ⟨rfl, rfl⟩
              rw [HU.out]
              go_wp2_with fail
              go_meet
              case rel => exact ⟨rfl, hR, hB5.setCell (by show C ≤ P; omega) _⟩
            · obtain ⟨rfl, rfl⟩ := H4' rfl
              go_wp2
              go_meet
              case rel => exact ⟨rfl, hPS5, hB5⟩
          case rest =>
            obtain ⟨rfl, hPS6, hB6⟩ := hcut
            clear hPS5 hB5 H4 H4' qc0 qc1 qc2 qc3 qc4 qp0 qp1 qp2 qp3 qp4 qp5 qp6 fc fp
            obtain ⟨⟨qc0, qc1, qc2, qc3, qc4⟩, ⟨qp0, qp1, qp2, qp3, qp4, qp5, qp6⟩, fc, fp⟩ := hPS6.facts
            have hPS7 := (hPS6.p4 hCP T).p5 hCP N
            have hB7 : Below C w ((wc.setCell ⟨P, 4, none⟩ (.int .i64 T)).setCell ⟨P, 5, none⟩ (.int .i32 N)) := (hB6.setCell (by show C ≤ P; omega) _).setCell (by show C ≤ P; omega) _
            go_upto_if 115 with fail
            go_cut [8] from 10 (fun s8 wc => s8 = .int .i64 (i6 : Int) ∧ PS wc C P c0 c1 c2 ds d S L T N A M f ∧ Below C w wc)
            case first =>
              clear hPS6 hB6 qc0 qc1 qc2 qc3 qc4 qp0 qp1 qp2 qp3 qp4 qp5 qp6 fc fp
              cases lt
              · obtain ⟨rfl, rfl, rfl⟩ := H5' rfl
                go_wp2
                go_meet
                case rel => exact ⟨rfl, hPS7, hB7⟩
              · obtain ⟨hu, hA⟩ := H5 rfl
                have HU : Hid (uv zs n i4 = (lb, (i5 : Int))) := hu
                have hrow1 := row8_below hrow hbC hB7
                obtain ⟨⟨qc0, qc1, qc2, qc3, qc4⟩, ⟨qp0, qp1, qp2, qp3, qp4, qp5, qp6⟩, fc, fp⟩ := hPS7.facts
                have hPS8 := (hPS7.p4 hCP A).p5 hCP 0
                have hB8 : Below C w ((((wc.setCell ⟨P, 4, none⟩ (.int .i64 T)).setCell ⟨P, 5, none⟩ (.int .i32 N)).setCell ⟨P, 4, none⟩ (.int .i64 A)).setCell ⟨P, 5, none⟩ (.int .i32 0)) := (hB7.setCell (by show C ≤ P; omega) _).setCell (by show C ≤ P; omega) _
                have hrow2 := row8_below hrow hbC hB8
                have hR := hPS8.p5 hCP M
                clear hu H5 H5' hPS7
                cases wh
                · have HU2 : Hid (uv zs n i5 = (M, (i6 : Int))) := H6 rfl rfl
                  clear H6 H6'
                  go_wp2_with fail
                  refine (uvarint_row _ n cp zs i4 _ (by omega) hrow1).mono ?_
                  rintro e w' ⟨rfl, rfl⟩
                  rw [HU.out]
                  go_wp2_with fail
                  refine (uvarint_row _ n cp zs i5 _ (by omega) hrow2).mono ?_
                  rintro e w' ⟨rfl, rfl⟩
                  rw [HU2.out]
                  go_wp2_with fail
                  go_meet
                  case rel => exact ⟨rfl, hR, hB8.setCell (by show C ≤ P; omega) _⟩
                · obtain ⟨rfl, rfl⟩ := H6' rfl rfl
                  clear H6 H6'
                  go_wp2_with fail
                  refine (uvarint_row _ n cp zs i4 _ (by omega) hrow1).mono ?_
                  rintro e w' ⟨rfl, rfl⟩
                  rw [HU.out]
                  go_wp2_with fail
                  go_meet
                  case rel => exact ⟨rfl, hPS8, hB8⟩
            case rest =>
              obtain ⟨rfl, hPS9, hB9⟩ := hcut
              clear hPS7 hB7 hPS6 hB6 F8 F4 H5 H5' H6 H6' hrow qc0 qc1 qc2 qc3 qc4 qp0 qp1 qp2 qp3 qp4 qp5 qp6 fc fp
              obtain ⟨⟨qc0, qc1, qc2, qc3, qc4⟩, ⟨qp0, qp1, qp2, qp3, qp4, qp5, qp6⟩, fc, fp⟩ := hPS9.facts
              have hR := ((hPS9.c0 hCP T).c1 hCP L).c2 hCP S
              have hBR : Below C w (((wc.setCell ⟨C, 0, none⟩ (.int .i64 T)).setCell ⟨C, 1, none⟩ (.int .i64 L)).setCell ⟨C, 2, none⟩ (.int .i64 S)) := ((hB9.setCell (Nat.le_refl _) _).setCell (Nat.le_refl _) _).setCell (Nat.le_refl _) _
              clear hPS9 hB9
              go_upto_region 30 with fail
              go_region
              all_goals (go_wp2; go_ret)
              all_goals exact ⟨rfl, hR, hBR.drew⟩
end Go.Proofs.Qxb6003262a
