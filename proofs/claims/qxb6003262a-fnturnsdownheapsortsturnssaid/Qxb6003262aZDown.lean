/-
  The walk of zzDown: the textbook's sift-down.
-/
import Derived.Test.Qxb6003262aCopy4
namespace Go.Proofs.Qxb6003262a
set_option linter.unusedVariables false
open Go.RowKit

theorem zd_go {f : Nat} {q : List Tn} {h n : Nat} (hl : q.length = n) (hf : n ≤ f + h) (h1 : 2 * h + 1 < n) (h2 : bef (gt q (pick q (2 * h + 1))) (gt q h) = true) :
    ∃ f', n ≤ f' + pick q (2 * h + 1) ∧ zd f q h = zd f' ((q.set h (gt q (pick q (2 * h + 1)))).set (pick q (2 * h + 1)) (gt q h)) (pick q (2 * h + 1)) := by
  have hp := pick_lt q (2 * h + 1) (by omega)
  obtain ⟨m, rfl⟩ : ∃ m, f = m + 1 := ⟨f - 1, by omega⟩
  exact ⟨m, by omega, by rw [zd, if_pos ⟨by omega, h2⟩]⟩
theorem zd_stop {f : Nat} {q : List Tn} {h : Nat} (h1 : ¬ 2 * h + 1 < q.length ∨ bef (gt q (pick q (2 * h + 1))) (gt q h) = false) : zd f q h = q := by
  cases f with
  | zero => rfl
  | succ f =>
    rw [zd, if_neg]
    rintro ⟨g1, g2⟩
    rcases h1 with h1 | h1
    · omega
    · rw [h1] at g2; cases g2

set_option maxHeartbeats 2000000 in
theorem zdown (a : Option Addr) (n c' i : Nat) (q : List Tn) (w : World) (hi : (i : Int) ≤ 9223372036854775807) (hT : TIn w a n q) (hc' : a = none → c' = 0) :
    Calls Try.prog 24 #[.slice a n c', .int .i64 i] w fun e w' => ∃ g, e = .returned (.slice (some ⟨g, 0, none⟩) n n) ∧ OwnT w' g 45 (zdF q i) ∧ w.heap.size ≤ g ∧ Below w.heap.size w w' := by
  have hn := hT.2.1
  have hq := hT.1
  obtain ⟨i0, hi0, hz0, hz1, hz2⟩ := info_parts Try.info45
  have HQ : Hid (q.length = n) := hq
  clear hq
  go_enter Try.func24, Try.ntmps24
  go_upto_region 3 with (first | (at_make; refine wpList_make_full _ rfl (.tmp 10) (.tmp 10) 38 rfl w.heap.size 45 i0 _ 4 Try.underlying38 hi0 hz0 hz1 .i64 .i64 n n n rfl rfl rfl rfl (by rw [hz2]; omega) (by unfold maxLen; omega) (Nat.le_refl _) ?_; intro w1 hown hgrow) | (refine wpList_copyT rfl (.tmp 12) (.tmp 13) rfl w.heap.size n c' a q (List.replicate n t0) rfl rfl (hT.below (below_grown0 hgrow)) hc' (ownT_made hown) (by simp) w.heap.size w (below_grown0 hgrow) (Nat.le_refl _) ?_; intro wx HOx hBx))
  clear hown hgrow hT
  obtain ⟨g, hg⟩ : ∃ g, g = w.heap.size := ⟨_, rfl⟩
  have hwg : w.heap.size ≤ g := by omega
  rw [← hg] at HOx ⊢
  clear hg
  by_cases hin : i < n
  · have HZ : Hid (zdF q i = zd n q i) := by show _ = _; unfold zdF; rw [if_pos (by rw [HQ.out]; exact hin), HQ.out]
    have hni : decide (n ≤ i) = false := decide_eq_false (by omega)
    go_wp2
    go_loopw [1] (fun x wr => ∃ (f h : Nat) (p : List Tn), h < n ∧ n ≤ f + h ∧ x = .int .i64 (h : Int) ∧ OwnT wr g 45 p ∧ p.length = n ∧ Below w.heap.size w wr ∧ Hid (zd n q i = zd f p h)) (fun x _ => n - (intOf x).toNat)
    case atStart => exact ⟨n, i, q, by omega, by omega, rfl, HOx, HQ.out, hBx, rfl⟩
    case round =>
      clear HOx hBx
      obtain ⟨f, h, p, hhn, hf, rfl, HO, hpl, hB, HE⟩ := hrel
      by_cases h1 : 2 * h + 1 < n
      · go_upto_region 8 with fail
        obtain ⟨c, hc⟩ : ∃ c, c = 2 * h + 1 := ⟨_, rfl⟩
        have hcI : (2 * (h : Int) + 1) = (c : Int) := by omega
        rw [hcI]
        have HC : Hid (c = 2 * h + 1) := hc
        have hcn : c < n := by omega
        clear hcI hc h1
        by_cases h2 : c + 1 < n
        · obtain ⟨e0, e1, e2, e3⟩ := HO.at (c + 1) (by omega)
          obtain ⟨f0, f1, f2, f3⟩ := HO.at c (by omega)
          have hgw := HO.lt
          have g1 : (c : Int) + 1 < (n : Int) := by omega
          have g2 : (0 : Int) ≤ (c : Int) + 1 := by omega
          have g3 : (c : Int) < (n : Int) := by omega
          have g4 : (0 : Int) ≤ (c : Int) := by omega
          have gw : IntKind.i64.wrap ((c : Int) + 1) = (c : Int) + 1 := by rw [IntKind.wrap_i64]; omega
          have gw' : wrap64 ((c : Int) + 1) = (c : Int) + 1 := IntWalk.wrap64_in _ ⟨by omega, by omega⟩
          by_cases h3 : bef (gt p (c + 1)) (gt p c) = true
          · go_region_held3 (fun w' => w'.cell? ⟨g, (c + 1) * 4, none⟩ = some (.int .i64 (gt p (c + 1)).s) ∧ w'.cell? ⟨g, (c + 1) * 4 + 1, none⟩ = some (.int .i32 (gt p (c + 1)).n) ∧ w'.cell? ⟨g, (c + 1) * 4 + 2, none⟩ = some (.int .i64 (gt p (c + 1)).r) ∧ w'.cell? ⟨g, (c + 1) * 4 + 3, none⟩ = some (.int .i64 (gt p (c + 1)).u) ∧ w'.cell? ⟨g, c * 4, none⟩ = some (.int .i64 (gt p c).s) ∧ w'.cell? ⟨g, c * 4 + 1, none⟩ = some (.int .i32 (gt p c).n) ∧ w'.cell? ⟨g, c * 4 + 2, none⟩ = some (.int .i64 (gt p c).r) ∧ w'.cell? ⟨g, c * 4 + 3, none⟩ = some (.int .i64 (gt p c).u)) (go_keep) ((go_at_call 32; refine (zbefore (gt p (c + 1)) (gt p c) _).mono ?_; rintro e w2 ⟨rfl, hb2⟩; have hcc := fun o => hb2.cell (p := ⟨g, o, none⟩) hgw))
            have HO2 : OwnT w2 g 45 p := (hb2.block g hgw).trans HO
            have hB2 : Below w.heap.size w w2 := hB.drew.trans (hb2.mono hB.size)
            clear e0 e1 e2 e3 f0 f1 f2 f3 hcc hb2 HO hB hgw gw gw'
            go_upto_region 10 with fail
            obtain ⟨m, hm⟩ : ∃ m, m = c + 1 := ⟨_, rfl⟩
            have hmI : (c : Int) + 1 = (m : Int) := by omega
            have HM : Hid (m = pick p (2 * h + 1)) := by show _ = _; rw [hm, ← HC.out]; exact (pick_yes hpl h2 h3).symm
            have hmn : m < n := by omega
            have hmh : h < m := by have := HC.out; omega
            have hmI1 : (m : Int) < (n : Int) := by omega
            have hmI0 : (0 : Int) ≤ (m : Int) := by omega
            have hhI1 : (h : Int) < (n : Int) := by omega
            have hhI0 : (0 : Int) ≤ (h : Int) := by omega
            have HC2 : Hid (c = 2 * h + 1) := HC
            rw [hmI]
            clear hm hmI HC g1 g3 g4 g2
            obtain ⟨e0, e1, e2, e3⟩ := HO2.at m (by omega)
            obtain ⟨f0, f1, f2, f3⟩ := HO2.at h (by omega)
            have hgw := HO2.lt
            by_cases h4 : bef (gt p m) (gt p h) = true
            · obtain ⟨f', hf', hE'⟩ := zd_go (f := f) (h := h) hpl hf (by have := HC2.out; omega) (by rw [← HM.out]; exact h4)
              rw [← HM.out] at hf' hE'
              have HE2 : Hid (zd f p h = zd f' ((p.set h (gt p m)).set m (gt p h)) m) := hE'
              clear hE'
              go_region_held3 (fun w' => w'.cell? ⟨g, m * 4, none⟩ = some (.int .i64 (gt p m).s) ∧ w'.cell? ⟨g, m * 4 + 1, none⟩ = some (.int .i32 (gt p m).n) ∧ w'.cell? ⟨g, m * 4 + 2, none⟩ = some (.int .i64 (gt p m).r) ∧ w'.cell? ⟨g, m * 4 + 3, none⟩ = some (.int .i64 (gt p m).u) ∧ w'.cell? ⟨g, h * 4, none⟩ = some (.int .i64 (gt p h).s) ∧ w'.cell? ⟨g, h * 4 + 1, none⟩ = some (.int .i32 (gt p h).n) ∧ w'.cell? ⟨g, h * 4 + 2, none⟩ = some (.int .i64 (gt p h).r) ∧ w'.cell? ⟨g, h * 4 + 3, none⟩ = some (.int .i64 (gt p h).u)) (go_keep) ((go_at_call 32; refine (zbefore (gt p m) (gt p h) _).mono ?_; rintro e w3 ⟨rfl, hb3⟩; have hcc3 := fun o => hb3.cell (p := ⟨g, o, none⟩) hgw))
              have HO3 : OwnT w3 g 45 p := (hb3.block g hgw).trans HO2
              have hB3 : Below w.heap.size w w3 := hB2.drew.trans (hb3.mono hB2.size)
              clear e0 e1 e2 e3 f0 f1 f2 f3 hcc3 hb3 HO2 hB2
              have hgw3 := HO3.lt
              have HS0 := (HO3.store h (gt p m) (by omega)).store m (gt p h) (by rw [List.length_set]; omega)
              have HS := (Below.heap_alloc _ (.cells #[.int .i64 (gt p h).s, .int .i32 (gt p h).n, .int .i64 (gt p h).r, .int .i64 (gt p h).u] 45) g HS0.lt).trans HS0
              have hBS0 := ((((((((hB3.setCell (p := ⟨g, h * 4, none⟩) hwg (.int .i64 (gt p m).s)).setCell (p := ⟨g, h * 4 + 1, none⟩) hwg (.int .i32 (gt p m).n)).setCell (p := ⟨g, h * 4 + 2, none⟩) hwg (.int .i64 (gt p m).r)).setCell (p := ⟨g, h * 4 + 3, none⟩) hwg (.int .i64 (gt p m).u)).setCell (p := ⟨g, m * 4, none⟩) hwg (.int .i64 (gt p h).s)).setCell (p := ⟨g, m * 4 + 1, none⟩) hwg (.int .i32 (gt p h).n)).setCell (p := ⟨g, m * 4 + 2, none⟩) hwg (.int .i64 (gt p h).r)).setCell (p := ⟨g, m * 4 + 3, none⟩) hwg (.int .i64 (gt p h).u))
              have hBS := hBS0.alloc hBS0.size (.cells #[.int .i64 (gt p h).s, .int .i32 (gt p h).n, .int .i64 (gt p h).r, .int .i64 (gt p h).u] 45)
              obtain ⟨e0, e1, e2, e3⟩ := HO3.at m (by omega)
              obtain ⟨f0, f1, f2, f3⟩ := HO3.at h (by omega)
              have hfz := HO3.frozen
              clear HO3 hB3 HS0 hBS0
              go_wp2
              go_roundw
              case rel => exact ⟨f', m, _, by omega, hf', by go_num, HS, by simp [hpl], hBS, HE.out.trans HE2.out⟩
              case measure => simp [intOf]; omega
            · have h4' : bef (gt p m) (gt p h) = false := by simpa using h4
              clear h4
              have HE2 : Hid (zd f p h = p) := zd_stop (.inr (by rw [← HM.out]; exact h4'))
              go_region_held3 (fun w' => w'.cell? ⟨g, m * 4, none⟩ = some (.int .i64 (gt p m).s) ∧ w'.cell? ⟨g, m * 4 + 1, none⟩ = some (.int .i32 (gt p m).n) ∧ w'.cell? ⟨g, m * 4 + 2, none⟩ = some (.int .i64 (gt p m).r) ∧ w'.cell? ⟨g, m * 4 + 3, none⟩ = some (.int .i64 (gt p m).u) ∧ w'.cell? ⟨g, h * 4, none⟩ = some (.int .i64 (gt p h).s) ∧ w'.cell? ⟨g, h * 4 + 1, none⟩ = some (.int .i32 (gt p h).n) ∧ w'.cell? ⟨g, h * 4 + 2, none⟩ = some (.int .i64 (gt p h).r) ∧ w'.cell? ⟨g, h * 4 + 3, none⟩ = some (.int .i64 (gt p h).u)) (go_keep) ((go_at_call 32; refine (zbefore (gt p m) (gt p h) _).mono ?_; rintro e w3 ⟨rfl, hb3⟩; have hcc3 := fun o => hb3.cell (p := ⟨g, o, none⟩) hgw))
              have HO3 : OwnT w3 g 45 p := (hb3.block g hgw).trans HO2
              have hB3 : Below w.heap.size w w3 := hB2.drew.trans (hb3.mono hB2.size)
              clear e0 e1 e2 e3 f0 f1 f2 f3 hcc3 hb3 HO2 hB2
              go_wp2
              go_ret
              exact ⟨g, rfl, by rw [HZ.out, HE.out, HE2.out]; exact HO3, hwg, hB3⟩
          · have h3' : bef (gt p (c + 1)) (gt p c) = false := by simpa using h3
            clear h3
            go_region_held3 (fun w' => w'.cell? ⟨g, (c + 1) * 4, none⟩ = some (.int .i64 (gt p (c + 1)).s) ∧ w'.cell? ⟨g, (c + 1) * 4 + 1, none⟩ = some (.int .i32 (gt p (c + 1)).n) ∧ w'.cell? ⟨g, (c + 1) * 4 + 2, none⟩ = some (.int .i64 (gt p (c + 1)).r) ∧ w'.cell? ⟨g, (c + 1) * 4 + 3, none⟩ = some (.int .i64 (gt p (c + 1)).u) ∧ w'.cell? ⟨g, c * 4, none⟩ = some (.int .i64 (gt p c).s) ∧ w'.cell? ⟨g, c * 4 + 1, none⟩ = some (.int .i32 (gt p c).n) ∧ w'.cell? ⟨g, c * 4 + 2, none⟩ = some (.int .i64 (gt p c).r) ∧ w'.cell? ⟨g, c * 4 + 3, none⟩ = some (.int .i64 (gt p c).u)) (go_keep) ((go_at_call 32; refine (zbefore (gt p (c + 1)) (gt p c) _).mono ?_; rintro e w2 ⟨rfl, hb2⟩; have hcc := fun o => hb2.cell (p := ⟨g, o, none⟩) hgw))
            have HO2 : OwnT w2 g 45 p := (hb2.block g hgw).trans HO
            have hB2 : Below w.heap.size w w2 := hB.drew.trans (hb2.mono hB.size)
            clear e0 e1 e2 e3 f0 f1 f2 f3 hcc hb2 HO hB hgw gw gw'
            go_upto_region 10 with fail
            obtain ⟨m, hm⟩ : ∃ m, m = c := ⟨_, rfl⟩
            have hmI : (c : Int) = (m : Int) := by omega
            have HM : Hid (m = pick p (2 * h + 1)) := by show _ = _; rw [hm, ← HC.out]; exact (pick_no hpl (.inr h3')).symm
            have hmn : m < n := by omega
            have hmh : h < m := by have := HC.out; omega
            have hmI1 : (m : Int) < (n : Int) := by omega
            have hmI0 : (0 : Int) ≤ (m : Int) := by omega
            have hhI1 : (h : Int) < (n : Int) := by omega
            have hhI0 : (0 : Int) ≤ (h : Int) := by omega
            have HC2 : Hid (c = 2 * h + 1) := HC
            rw [hmI]
            clear hm hmI HC g1 g3 g4 g2
            obtain ⟨e0, e1, e2, e3⟩ := HO2.at m (by omega)
            obtain ⟨f0, f1, f2, f3⟩ := HO2.at h (by omega)
            have hgw := HO2.lt
            by_cases h4 : bef (gt p m) (gt p h) = true
            · obtain ⟨f', hf', hE'⟩ := zd_go (f := f) (h := h) hpl hf (by have := HC2.out; omega) (by rw [← HM.out]; exact h4)
              rw [← HM.out] at hf' hE'
              have HE2 : Hid (zd f p h = zd f' ((p.set h (gt p m)).set m (gt p h)) m) := hE'
              clear hE'
              go_region_held3 (fun w' => w'.cell? ⟨g, m * 4, none⟩ = some (.int .i64 (gt p m).s) ∧ w'.cell? ⟨g, m * 4 + 1, none⟩ = some (.int .i32 (gt p m).n) ∧ w'.cell? ⟨g, m * 4 + 2, none⟩ = some (.int .i64 (gt p m).r) ∧ w'.cell? ⟨g, m * 4 + 3, none⟩ = some (.int .i64 (gt p m).u) ∧ w'.cell? ⟨g, h * 4, none⟩ = some (.int .i64 (gt p h).s) ∧ w'.cell? ⟨g, h * 4 + 1, none⟩ = some (.int .i32 (gt p h).n) ∧ w'.cell? ⟨g, h * 4 + 2, none⟩ = some (.int .i64 (gt p h).r) ∧ w'.cell? ⟨g, h * 4 + 3, none⟩ = some (.int .i64 (gt p h).u)) (go_keep) ((go_at_call 32; refine (zbefore (gt p m) (gt p h) _).mono ?_; rintro e w3 ⟨rfl, hb3⟩; have hcc3 := fun o => hb3.cell (p := ⟨g, o, none⟩) hgw))
              have HO3 : OwnT w3 g 45 p := (hb3.block g hgw).trans HO2
              have hB3 : Below w.heap.size w w3 := hB2.drew.trans (hb3.mono hB2.size)
              clear e0 e1 e2 e3 f0 f1 f2 f3 hcc3 hb3 HO2 hB2
              have hgw3 := HO3.lt
              have HS0 := (HO3.store h (gt p m) (by omega)).store m (gt p h) (by rw [List.length_set]; omega)
              have HS := (Below.heap_alloc _ (.cells #[.int .i64 (gt p h).s, .int .i32 (gt p h).n, .int .i64 (gt p h).r, .int .i64 (gt p h).u] 45) g HS0.lt).trans HS0
              have hBS0 := ((((((((hB3.setCell (p := ⟨g, h * 4, none⟩) hwg (.int .i64 (gt p m).s)).setCell (p := ⟨g, h * 4 + 1, none⟩) hwg (.int .i32 (gt p m).n)).setCell (p := ⟨g, h * 4 + 2, none⟩) hwg (.int .i64 (gt p m).r)).setCell (p := ⟨g, h * 4 + 3, none⟩) hwg (.int .i64 (gt p m).u)).setCell (p := ⟨g, m * 4, none⟩) hwg (.int .i64 (gt p h).s)).setCell (p := ⟨g, m * 4 + 1, none⟩) hwg (.int .i32 (gt p h).n)).setCell (p := ⟨g, m * 4 + 2, none⟩) hwg (.int .i64 (gt p h).r)).setCell (p := ⟨g, m * 4 + 3, none⟩) hwg (.int .i64 (gt p h).u))
              have hBS := hBS0.alloc hBS0.size (.cells #[.int .i64 (gt p h).s, .int .i32 (gt p h).n, .int .i64 (gt p h).r, .int .i64 (gt p h).u] 45)
              obtain ⟨e0, e1, e2, e3⟩ := HO3.at m (by omega)
              obtain ⟨f0, f1, f2, f3⟩ := HO3.at h (by omega)
              have hfz := HO3.frozen
              clear HO3 hB3 HS0 hBS0
              go_wp2
              go_roundw
              case rel => exact ⟨f', m, _, by omega, hf', by go_num, HS, by simp [hpl], hBS, HE.out.trans HE2.out⟩
              case measure => simp [intOf]; omega
            · have h4' : bef (gt p m) (gt p h) = false := by simpa using h4
              clear h4
              have HE2 : Hid (zd f p h = p) := zd_stop (.inr (by rw [← HM.out]; exact h4'))
              go_region_held3 (fun w' => w'.cell? ⟨g, m * 4, none⟩ = some (.int .i64 (gt p m).s) ∧ w'.cell? ⟨g, m * 4 + 1, none⟩ = some (.int .i32 (gt p m).n) ∧ w'.cell? ⟨g, m * 4 + 2, none⟩ = some (.int .i64 (gt p m).r) ∧ w'.cell? ⟨g, m * 4 + 3, none⟩ = some (.int .i64 (gt p m).u) ∧ w'.cell? ⟨g, h * 4, none⟩ = some (.int .i64 (gt p h).s) ∧ w'.cell? ⟨g, h * 4 + 1, none⟩ = some (.int .i32 (gt p h).n) ∧ w'.cell? ⟨g, h * 4 + 2, none⟩ = some (.int .i64 (gt p h).r) ∧ w'.cell? ⟨g, h * 4 + 3, none⟩ = some (.int .i64 (gt p h).u)) (go_keep) ((go_at_call 32; refine (zbefore (gt p m) (gt p h) _).mono ?_; rintro e w3 ⟨rfl, hb3⟩; have hcc3 := fun o => hb3.cell (p := ⟨g, o, none⟩) hgw))
              have HO3 : OwnT w3 g 45 p := (hb3.block g hgw).trans HO2
              have hB3 : Below w.heap.size w w3 := hB2.drew.trans (hb3.mono hB2.size)
              clear e0 e1 e2 e3 f0 f1 f2 f3 hcc3 hb3 HO2 hB2
              go_wp2
              go_ret
              exact ⟨g, rfl, by rw [HZ.out, HE.out, HE2.out]; exact HO3, hwg, hB3⟩
        · have g1 : decide ((c : Int) + 1 < (n : Int)) = false := decide_eq_false (by omega)
          have g3 : (c : Int) < (n : Int) := by omega
          have g4 : (0 : Int) ≤ (c : Int) := by omega
          have gw : IntKind.i64.wrap ((c : Int) + 1) = (c : Int) + 1 := by rw [IntKind.wrap_i64]; omega
          have gw' : wrap64 ((c : Int) + 1) = (c : Int) + 1 := IntWalk.wrap64_in _ ⟨by omega, by omega⟩
          go_quiet (fail)
          obtain ⟨w2, hw2⟩ : ∃ w2, w2 = wr.drewN nq := ⟨_, rfl⟩
          rw [← hw2]
          have HO2 : OwnT w2 g 45 p := by rw [hw2]; exact HO
          have hB2 : Below w.heap.size w w2 := by rw [hw2]; exact hB.trans (belowD _ _ _)
          clear HO hB gw gw' hw2
          go_upto_region 10 with fail
          obtain ⟨m, hm⟩ : ∃ m, m = c := ⟨_, rfl⟩
          have hmI : (c : Int) = (m : Int) := by omega
          have HM : Hid (m = pick p (2 * h + 1)) := by show _ = _; rw [hm, ← HC.out]; exact (pick_no hpl (.inl h2)).symm
          have hmn : m < n := by omega
          have hmh : h < m := by have := HC.out; omega
          have hmI1 : (m : Int) < (n : Int) := by omega
          have hmI0 : (0 : Int) ≤ (m : Int) := by omega
          have hhI1 : (h : Int) < (n : Int) := by omega
          have hhI0 : (0 : Int) ≤ (h : Int) := by omega
          have HC2 : Hid (c = 2 * h + 1) := HC
          rw [hmI]
          clear hm hmI HC g1 g3 g4 h2
          obtain ⟨e0, e1, e2, e3⟩ := HO2.at m (by omega)
          obtain ⟨f0, f1, f2, f3⟩ := HO2.at h (by omega)
          have hgw := HO2.lt
          by_cases h4 : bef (gt p m) (gt p h) = true
          · obtain ⟨f', hf', hE'⟩ := zd_go (f := f) (h := h) hpl hf (by have := HC2.out; omega) (by rw [← HM.out]; exact h4)
            rw [← HM.out] at hf' hE'
            have HE2 : Hid (zd f p h = zd f' ((p.set h (gt p m)).set m (gt p h)) m) := hE'
            clear hE'
            go_region_held3 (fun w' => w'.cell? ⟨g, m * 4, none⟩ = some (.int .i64 (gt p m).s) ∧ w'.cell? ⟨g, m * 4 + 1, none⟩ = some (.int .i32 (gt p m).n) ∧ w'.cell? ⟨g, m * 4 + 2, none⟩ = some (.int .i64 (gt p m).r) ∧ w'.cell? ⟨g, m * 4 + 3, none⟩ = some (.int .i64 (gt p m).u) ∧ w'.cell? ⟨g, h * 4, none⟩ = some (.int .i64 (gt p h).s) ∧ w'.cell? ⟨g, h * 4 + 1, none⟩ = some (.int .i32 (gt p h).n) ∧ w'.cell? ⟨g, h * 4 + 2, none⟩ = some (.int .i64 (gt p h).r) ∧ w'.cell? ⟨g, h * 4 + 3, none⟩ = some (.int .i64 (gt p h).u)) (go_keep) ((go_at_call 32; refine (zbefore (gt p m) (gt p h) _).mono ?_; rintro e w3 ⟨rfl, hb3⟩; have hcc3 := fun o => hb3.cell (p := ⟨g, o, none⟩) hgw))
            have HO3 : OwnT w3 g 45 p := (hb3.block g hgw).trans HO2
            have hB3 : Below w.heap.size w w3 := hB2.drew.trans (hb3.mono hB2.size)
            clear e0 e1 e2 e3 f0 f1 f2 f3 hcc3 hb3 HO2 hB2
            have hgw3 := HO3.lt
            have HS0 := (HO3.store h (gt p m) (by omega)).store m (gt p h) (by rw [List.length_set]; omega)
            have HS := (Below.heap_alloc _ (.cells #[.int .i64 (gt p h).s, .int .i32 (gt p h).n, .int .i64 (gt p h).r, .int .i64 (gt p h).u] 45) g HS0.lt).trans HS0
            have hBS0 := ((((((((hB3.setCell (p := ⟨g, h * 4, none⟩) hwg (.int .i64 (gt p m).s)).setCell (p := ⟨g, h * 4 + 1, none⟩) hwg (.int .i32 (gt p m).n)).setCell (p := ⟨g, h * 4 + 2, none⟩) hwg (.int .i64 (gt p m).r)).setCell (p := ⟨g, h * 4 + 3, none⟩) hwg (.int .i64 (gt p m).u)).setCell (p := ⟨g, m * 4, none⟩) hwg (.int .i64 (gt p h).s)).setCell (p := ⟨g, m * 4 + 1, none⟩) hwg (.int .i32 (gt p h).n)).setCell (p := ⟨g, m * 4 + 2, none⟩) hwg (.int .i64 (gt p h).r)).setCell (p := ⟨g, m * 4 + 3, none⟩) hwg (.int .i64 (gt p h).u))
            have hBS := hBS0.alloc hBS0.size (.cells #[.int .i64 (gt p h).s, .int .i32 (gt p h).n, .int .i64 (gt p h).r, .int .i64 (gt p h).u] 45)
            obtain ⟨e0, e1, e2, e3⟩ := HO3.at m (by omega)
            obtain ⟨f0, f1, f2, f3⟩ := HO3.at h (by omega)
            have hfz := HO3.frozen
            clear HO3 hB3 HS0 hBS0
            go_wp2
            go_roundw
            case rel => exact ⟨f', m, _, by omega, hf', by go_num, HS, by simp [hpl], hBS, HE.out.trans HE2.out⟩
            case measure => simp [intOf]; omega
          · have h4' : bef (gt p m) (gt p h) = false := by simpa using h4
            clear h4
            have HE2 : Hid (zd f p h = p) := zd_stop (.inr (by rw [← HM.out]; exact h4'))
            go_region_held3 (fun w' => w'.cell? ⟨g, m * 4, none⟩ = some (.int .i64 (gt p m).s) ∧ w'.cell? ⟨g, m * 4 + 1, none⟩ = some (.int .i32 (gt p m).n) ∧ w'.cell? ⟨g, m * 4 + 2, none⟩ = some (.int .i64 (gt p m).r) ∧ w'.cell? ⟨g, m * 4 + 3, none⟩ = some (.int .i64 (gt p m).u) ∧ w'.cell? ⟨g, h * 4, none⟩ = some (.int .i64 (gt p h).s) ∧ w'.cell? ⟨g, h * 4 + 1, none⟩ = some (.int .i32 (gt p h).n) ∧ w'.cell? ⟨g, h * 4 + 2, none⟩ = some (.int .i64 (gt p h).r) ∧ w'.cell? ⟨g, h * 4 + 3, none⟩ = some (.int .i64 (gt p h).u)) (go_keep) ((go_at_call 32; refine (zbefore (gt p m) (gt p h) _).mono ?_; rintro e w3 ⟨rfl, hb3⟩; have hcc3 := fun o => hb3.cell (p := ⟨g, o, none⟩) hgw))
            have HO3 : OwnT w3 g 45 p := (hb3.block g hgw).trans HO2
            have hB3 : Below w.heap.size w w3 := hB2.drew.trans (hb3.mono hB2.size)
            clear e0 e1 e2 e3 f0 f1 f2 f3 hcc3 hb3 HO2 hB2
            go_wp2
            go_ret
            exact ⟨g, rfl, by rw [HZ.out, HE.out, HE2.out]; exact HO3, hwg, hB3⟩
      · have HE2 : Hid (zd f p h = p) := zd_stop (.inl (by omega))
        go_wp2
        go_ret
        exact ⟨g, rfl, by rw [HZ.out, HE.out, HE2.out]; exact HO, hwg, hB⟩
  · have HZ : Hid (zdF q i = q) := by show _ = _; unfold zdF; rw [if_neg (by rw [HQ.out]; exact hin)]
    go_wp2
    go_ret
    exact ⟨g, rfl, by rw [HZ.out]; exact HOx, hwg, hBx⟩
end Go.Proofs.Qxb6003262a
