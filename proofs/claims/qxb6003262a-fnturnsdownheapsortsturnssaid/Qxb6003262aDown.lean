/-
  The walk of turns.down.
-/
import Derived.Test.Qxb6003262aBefore
namespace Go.Proofs.Qxb6003262a
set_option linter.unusedVariables false
open Go.RowKit

/-! ### Steps of the plain functions -/
theorem dsc_go {f : Nat} {q : List Tn} {h n : Nat} (hl : q.length = n) (hf : n ≤ f + h) (h1 : 2 * h + 1 < n) :
    ∃ f', n ≤ f' + pick q (2 * h + 1) ∧ dsc f q h = dsc f' (q.set h (gt q (pick q (2 * h + 1)))) (pick q (2 * h + 1)) := by
  have hp := pick_lt q (2 * h + 1) (by omega)
  obtain ⟨m, rfl⟩ : ∃ m, f = m + 1 := ⟨f - 1, by omega⟩
  exact ⟨m, by omega, by rw [dsc, if_pos (by omega)]⟩
theorem dsc_stop {f : Nat} {q : List Tn} {h n : Nat} (hl : q.length = n) (h1 : ¬ 2 * h + 1 < n) : dsc f q h = (q, h) := by
  cases f with
  | zero => rfl
  | succ f => rw [dsc, if_neg (by omega)]
theorem pick_yes {q : List Tn} {c n : Nat} (hl : q.length = n) (h1 : c + 1 < n) (h2 : bef (gt q (c + 1)) (gt q c) = true) : pick q c = c + 1 := by unfold pick; rw [if_pos ⟨by omega, h2⟩]
theorem pick_no {q : List Tn} {c n : Nat} (hl : q.length = n) (h1 : ¬ c + 1 < n ∨ bef (gt q (c + 1)) (gt q c) = false) : pick q c = c := by
  unfold pick; rw [if_neg]
  rintro ⟨g1, g2⟩
  rcases h1 with h1 | h1
  · omega
  · rw [h1] at g2; cases g2
theorem asc_go {f : Nat} {q : List Tn} {u : Tn} {i h : Nat} (hf : h ≤ f) (h1 : i < h) (h2 : bef u (gt q ((h - 1) / 2)) = true) : ∃ f', (h - 1) / 2 ≤ f' ∧ asc f q u i h = asc f' (q.set h (gt q ((h - 1) / 2))) u i ((h - 1) / 2) := by
  obtain ⟨m, rfl⟩ : ∃ m, f = m + 1 := ⟨f - 1, by omega⟩
  exact ⟨m, by omega, by rw [asc, if_pos ⟨h1, h2⟩]⟩
theorem asc_stop {f : Nat} {q : List Tn} {u : Tn} {i h : Nat} (h1 : ¬ i < h ∨ bef u (gt q ((h - 1) / 2)) = false) : asc f q u i h = q.set h u := by
  cases f with
  | zero => rfl
  | succ f =>
    rw [asc, if_neg]
    rintro ⟨g1, g2⟩
    rcases h1 with h1 | h1
    · omega
    · rw [h1] at g2; cases g2

/-- What the round knows of memory. -/
structure DS (w0 : World) (g B : Nat) (u : Tn) (n : Nat) (q : List Tn) (wr : World) : Prop where
  own : OwnT wr g 70 q
  box : OwnT wr B 70 [u]
  bel : Below g w0 wr
  len : q.length = n

theorem DS.below {w0 : World} {g B : Nat} {u : Tn} {n : Nat} {q : List Tn} {wr wx : World} (h : DS w0 g B u n q wr) (hb : Below wr.heap.size wr wx) : DS w0 g B u n q wx :=
  ⟨(hb.block g h.own.lt).trans h.own, (hb.block B h.box.lt).trans h.box, h.bel.trans (hb.mono (Nat.le_of_lt h.own.lt)), h.len⟩
theorem DS.drew {w0 : World} {g B : Nat} {u : Tn} {n : Nat} {q : List Tn} {wr : World} (h : DS w0 g B u n q wr) : DS w0 g B u n q wr.drew := h.below ((Below.refl _ _).drew)
theorem DS.store {w0 : World} {g B : Nat} {u : Tn} {n : Nat} {q : List Tn} {wr : World} (h : DS w0 g B u n q wr) (hB : B ≠ g) (j : Nat) (t : Tn) (hj : j < n) :
    DS w0 g B u n (q.set j t) ((((wr.setCell ⟨g, j * 4, none⟩ (.int .i64 t.s)).setCell ⟨g, j * 4 + 1, none⟩ (.int .i32 t.n)).setCell ⟨g, j * 4 + 2, none⟩ (.int .i64 t.r)).setCell ⟨g, j * 4 + 3, none⟩ (.int .i64 t.u)) := by
  refine ⟨h.own.store j t (by rw [h.len]; exact hj), ?_, (((h.bel.setCell (Nat.le_refl _) _).setCell (Nat.le_refl _) _).setCell (Nat.le_refl _) _).setCell (Nat.le_refl _) _, by rw [List.length_set]; exact h.len⟩
  unfold OwnT
  rw [heap_setCell_other _ _ _ _ (by show B ≠ g; exact hB), heap_setCell_other _ _ _ _ (by show B ≠ g; exact hB), heap_setCell_other _ _ _ _ (by show B ≠ g; exact hB), heap_setCell_other _ _ _ _ (by show B ≠ g; exact hB)]
  exact h.box

set_option maxHeartbeats 1000000 in
theorem down_out (g n i : Nat) (q : List Tn) (w : World) (hn : n ≤ 1048576) (hi : (i : Int) ≤ 9223372036854775807) (hge : n ≤ i) :
    Calls Try.prog 35 #[.slice (some ⟨g, 0, none⟩) n n, .int .i64 i] w fun e w' => e = .returned (.tuple #[]) ∧ w' = w := by
  go_enter Try.func35, Try.ntmps35
  go_wp2
  exact bodyPost_ret (v := .tuple #[]) (by simp [results, Try.results35]) rfl ⟨rfl, rfl⟩

set_option maxHeartbeats 1000000 in
theorem down_in (g n i : Nat) (q : List Tn) (w : World) (hn : n ≤ 1048576) (hq : q.length = n) (hin : i < n) (ho : OwnT w g 70 q) :
    Calls Try.prog 35 #[.slice (some ⟨g, 0, none⟩) n n, .int .i64 i] w fun e w' => e = .returned (.tuple #[]) ∧ OwnT w' g 70 (downF q i) ∧ Below g w w' := by
  obtain ⟨e0, e1, e2, e3⟩ := ho.at i (by omega)
  obtain ⟨u, hu⟩ : ∃ u, u = gt q i := ⟨_, rfl⟩
  rw [← hu] at e0 e1 e2 e3
  have HU : Hid (u = gt q i) := hu
  clear hu
  have hg := ho.lt
  have HD0 : DS w g w.heap.size u n q (w.alloc (.cells #[.int .i64 u.s, .int .i32 u.n, .int .i64 u.r, .int .i64 u.u] 70)) :=
    ⟨(Below.heap_alloc w _ g hg).trans ho, by unfold OwnT; rw [heap_alloc_new]; rfl, (Below.refl _ _).alloc (Nat.le_of_lt hg) _, hq⟩
  have hni : decide (n ≤ i) = false := decide_eq_false (by omega)
  go_enter Try.func35, Try.ntmps35
  go_wp2
  clear e0 e1 e2 e3
  go_loopw [5] (fun s5 wr => ∃ (f h : Nat) (p : List Tn), i ≤ h ∧ h < n ∧ n ≤ f + h ∧ s5 = .int .i64 (h : Int) ∧ DS w g w.heap.size u n p wr ∧ Hid (dsc n q i = dsc f p h)) (fun s5 _ => n - (intOf s5).toNat)
  case atStart => exact ⟨n, i, q, by omega, by omega, by omega, rfl, HD0, rfl⟩
  case round =>
    obtain ⟨f, h, p, hih, hhn, hf, rfl, HD, HE⟩ := hrel
    clear HD0
    by_cases h1 : 2 * h + 1 < n
    · by_cases h2 : 2 * h + 1 + 1 < n
      · go_upto_region 6 with fail
        obtain ⟨c, hc⟩ : ∃ c, c = 2 * h + 1 := ⟨_, rfl⟩
        have hcI : (2 * (h : Int) + 1) = (c : Int) := by omega
        rw [hcI]
        obtain ⟨c0, c1, c2, c3⟩ := HD.drew.own.at (c + 1) (by rw [HD.len]; omega)
        obtain ⟨d0, d1, d2, d3⟩ := HD.drew.own.at c (by rw [HD.len]; omega)
        have g1 : (c : Int) + 1 < (n : Int) := by omega
        have g2 : (0 : Int) ≤ (c : Int) + 1 := by omega
        have g3 : (c : Int) < (n : Int) := by omega
        have g4 : (0 : Int) ≤ (c : Int) := by omega
        have HC : Hid (c = 2 * h + 1) := hc
        clear hcI hc h1 h2
        by_cases h3 : bef (gt p (c + 1)) (gt p c) = true
        · go_region_held3 (fun _ => True) (trivial) ((go_at_call 37; refine (before_ptr g ((c + 1) * 4) g (c * 4) (gt p (c + 1)) (gt p c) wr.drew c0 c1 c2 c3 d0 d1 d2 d3).mono ?_; rintro e w' ⟨rfl, hb⟩))
          have HD2 := HD.drew.below hb
          have HP : Hid (pick p (2 * h + 1) = c + 1) := by show _ = _; rw [← HC.out]; exact pick_yes HD.len (by omega) h3
          have HD3 := HD2.store (by omega) h (gt p (c + 1)) hhn
          obtain ⟨f', hf', hE'⟩ := dsc_go (f := f) (h := h) HD.len hf (by have := HC.out; omega)
          rw [HP.out] at hf' hE'
          have HE2 : Hid (dsc f p h = dsc f' (p.set h (gt p (c + 1))) (c + 1)) := hE'
          clear hE'
          obtain ⟨c0, c1, c2, c3⟩ := HD2.own.at (c + 1) (by rw [HD.len]; omega)
          obtain ⟨d0, d1, d2, d3⟩ := HD2.own.at h (by rw [HD.len]; omega)
          have hfz := HD2.own.frozen
          have hch : h < c := by have := HC.out; omega
          clear HD HD2 hb HC
          go_wp2
          go_roundw
          case rel => exact ⟨f', c + 1, _, by omega, by omega, hf', by go_num, HD3, HE.out.trans HE2.out⟩
          case measure => simp [intOf]; omega
        · have h3' : bef (gt p (c + 1)) (gt p c) = false := by simpa using h3
          clear h3
          go_region_held3 (fun _ => True) (trivial) ((go_at_call 37; refine (before_ptr g ((c + 1) * 4) g (c * 4) (gt p (c + 1)) (gt p c) wr.drew c0 c1 c2 c3 d0 d1 d2 d3).mono ?_; rintro e w' ⟨rfl, hb⟩))
          have HD2 := HD.drew.below hb
          have HP : Hid (pick p (2 * h + 1) = c) := by show _ = _; rw [← HC.out]; exact pick_no HD.len (.inr h3')
          have HD3 := HD2.store (by omega) h (gt p c) hhn
          obtain ⟨f', hf', hE'⟩ := dsc_go (f := f) (h := h) HD.len hf (by have := HC.out; omega)
          rw [HP.out] at hf' hE'
          have HE2 : Hid (dsc f p h = dsc f' (p.set h (gt p c)) c) := hE'
          clear hE'
          obtain ⟨c0, c1, c2, c3⟩ := HD2.own.at c (by rw [HD.len]; omega)
          obtain ⟨d0, d1, d2, d3⟩ := HD2.own.at h (by rw [HD.len]; omega)
          have hfz := HD2.own.frozen
          have hch : h < c := by have := HC.out; omega
          clear HD HD2 hb HC
          go_wp2
          go_roundw
          case rel => exact ⟨f', c, _, by omega, by omega, hf', by go_num, HD3, HE.out.trans HE2.out⟩
          case measure => simp [intOf]; omega
      · go_upto_region 6 with fail
        obtain ⟨c, hc⟩ : ∃ c, c = 2 * h + 1 := ⟨_, rfl⟩
        have hcI : (2 * (h : Int) + 1) = (c : Int) := by omega
        rw [hcI]
        have g1 : decide ((c : Int) + 1 < (n : Int)) = false := decide_eq_false (by omega)
        have g3 : (c : Int) < (n : Int) := by omega
        have g4 : (0 : Int) ≤ (c : Int) := by omega
        have HC : Hid (c = 2 * h + 1) := hc
        clear hcI hc h1 h2
        go_quiet (fail)
        have HD2 := HD.below (belowD _ _ nq)
        have HP : Hid (pick p (2 * h + 1) = c) := by show _ = _; rw [← HC.out]; exact pick_no HD.len (.inl (by have := of_decide_eq_false g1; omega))
        have HD3 := HD2.store (by omega) h (gt p c) hhn
        obtain ⟨f', hf', hE'⟩ := dsc_go (f := f) (h := h) HD.len hf (by have := HC.out; omega)
        rw [HP.out] at hf' hE'
        have HE2 : Hid (dsc f p h = dsc f' (p.set h (gt p c)) c) := hE'
        clear hE'
        obtain ⟨c0, c1, c2, c3⟩ := HD2.own.at c (by rw [HD.len]; omega)
        obtain ⟨d0, d1, d2, d3⟩ := HD2.own.at h (by rw [HD.len]; omega)
        have hfz := HD2.own.frozen
        have hch : h < c := by have := HC.out; omega
        clear HD HD2 HC
        go_wp2
        go_roundw
        case rel => exact ⟨f', c, _, by omega, by omega, hf', by go_num, HD3, HE.out.trans HE2.out⟩
        case measure => simp [intOf]; omega
    · have HQ : Hid (downF q i = asc n p u i h) := by
        show _ = _
        unfold downF
        rw [if_pos (by omega), hq, HE.out, dsc_stop HD.len h1, HU.out]
      clear HE HU hf
      have hx : decide ((n : Int) ≤ 2 * (h : Int) + 1) = true := decide_eq_true (by omega)
      go_wp2
      clear hx
      go_loopw [5] (fun s5 wx => ∃ (f h : Nat) (p : List Tn), h < n ∧ h ≤ f ∧ s5 = .int .i64 (h : Int) ∧ DS w g w.heap.size u n p wx ∧ Hid (downF q i = asc f p u i h)) (fun s5 _ => (intOf s5).toNat)
      case atStart => exact ⟨n, h, p, by omega, by omega, rfl, HD, HQ⟩
      case round =>
        clear HD HQ hhn hih h1
        obtain ⟨f, h, p, hhn, hf, rfl, HD, HQ⟩ := hrel
        by_cases h1 : i < h
        · obtain ⟨b0, b1, b2, b3⟩ := HD.box.at 0 (by simp)
          obtain ⟨d0, d1, d2, d3⟩ := HD.own.at ((h - 1) / 2) (by rw [HD.len]; omega)
          by_cases h3 : bef u (gt p ((h - 1) / 2)) = true
          · go_wp2_with fail
            refine (before_ptr w.heap.size 0 g ((h - 1) / 2 * 4) u (gt p ((h - 1) / 2)) wr b0 b1 b2 b3 d0 d1 d2 d3).mono ?_
            rintro e w' ⟨rfl, hb⟩
            have HD2 := HD.below hb
            have HD3 := HD2.store (by omega) h (gt p ((h - 1) / 2)) hhn
            obtain ⟨f', hf', hE'⟩ := asc_go (f := f) (q := p) hf h1 h3
            have HE2 : Hid (asc f p u i h = asc f' (p.set h (gt p ((h - 1) / 2))) u i ((h - 1) / 2)) := hE'
            clear hE' b0 b1 b2 b3 d0 d1 d2 d3
            obtain ⟨c0, c1, c2, c3⟩ := HD2.own.at ((h - 1) / 2) (by rw [HD.len]; omega)
            obtain ⟨d0, d1, d2, d3⟩ := HD2.own.at h (by rw [HD.len]; omega)
            have hfz := HD2.own.frozen
            have hch : (h - 1) / 2 < h := by omega
            clear HD HD2 hb
            go_wp2
            go_roundw
            case rel => exact ⟨f', (h - 1) / 2, _, by omega, hf', by go_num, HD3, HQ.out.trans HE2.out⟩
            case measure => simp [intOf]; omega
          · have h3' : bef u (gt p ((h - 1) / 2)) = false := by simpa using h3
            clear h3
            go_wp2_with fail
            refine (before_ptr w.heap.size 0 g ((h - 1) / 2 * 4) u (gt p ((h - 1) / 2)) wr b0 b1 b2 b3 d0 d1 d2 d3).mono ?_
            rintro e w' ⟨rfl, hb⟩
            have HD2 := HD.below hb
            have HD3 := HD2.store (by omega) h u hhn
            have HE2 : Hid (downF q i = p.set h u) := HQ.out.trans (asc_stop (.inr h3'))
            clear b0 b1 b2 b3 d0 d1 d2 d3
            obtain ⟨b0, b1, b2, b3⟩ := HD2.box.at 0 (by simp)
            obtain ⟨d0, d1, d2, d3⟩ := HD2.own.at h (by rw [HD.len]; omega)
            have hfz := HD2.own.frozen
            clear HD HD2 hb HQ
            go_wp2
            go_end0
            exact ⟨rfl, by rw [HE2.out]; exact HD3.own, HD3.bel⟩
        · have HD3 := HD.store (by omega) h u hhn
          have HE2 : Hid (downF q i = p.set h u) := HQ.out.trans (asc_stop (.inl h1))
          obtain ⟨b0, b1, b2, b3⟩ := HD.box.at 0 (by simp)
          obtain ⟨d0, d1, d2, d3⟩ := HD.own.at h (by rw [HD.len]; omega)
          have hfz := HD.own.frozen
          clear HD HQ
          go_wp2
          go_end0
          exact ⟨rfl, by rw [HE2.out]; exact HD3.own, HD3.bel⟩
end Go.Proofs.Qxb6003262a
