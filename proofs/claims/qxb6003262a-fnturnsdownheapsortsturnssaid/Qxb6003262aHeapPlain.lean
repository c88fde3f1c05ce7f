/-
  Plain mathematics of the turns: their order; the two sift-downs; why they agree. No Go in sight.
-/
namespace Go.Proofs.Qxb6003262a
set_option linter.unusedVariables false

/-- A turn: seconds, nanoseconds, rank, run. -/
structure Tn where
  s : Int
  n : Int
  r : Int
  u : Int

def t0 : Tn := ⟨0, 0, 0, 0⟩

theorem Tn.eq_of {a b : Tn} (h1 : a.s = b.s) (h2 : a.n = b.n) (h3 : a.r = b.r) (h4 : a.u = b.u) : a = b := by
  cases a; cases b; simp_all

/-- a comes before b. -/
def bef (a b : Tn) : Bool :=
  if a.s = b.s then (if a.n = b.n then (if a.r = b.r then decide (a.u < b.u) else decide (a.r < b.r)) else decide (a.n < b.n)) else decide (a.s < b.s)

theorem bef_iff (a b : Tn) : bef a b = true ↔ a.s < b.s ∨ (a.s = b.s ∧ (a.n < b.n ∨ (a.n = b.n ∧ (a.r < b.r ∨ (a.r = b.r ∧ a.u < b.u))))) := by
  unfold bef
  split
  · split
    · split
      · simp; omega
      · simp; omega
    · simp; omega
  · simp; omega

theorem bef_false_iff (a b : Tn) : bef a b = false ↔ ¬ (a.s < b.s ∨ (a.s = b.s ∧ (a.n < b.n ∨ (a.n = b.n ∧ (a.r < b.r ∨ (a.r = b.r ∧ a.u < b.u)))))) := by
  rw [← bef_iff]; simp

theorem bef_irrefl (a : Tn) : bef a a = false := by rw [bef_false_iff]; omega
theorem bef_asymm {a b : Tn} (h : bef a b = true) : bef b a = false := by rw [bef_iff] at h; rw [bef_false_iff]; omega
/-- 'no later than' is transitive: said of 'not before'. -/
theorem nb_trans {a b c : Tn} (h1 : bef b a = false) (h2 : bef c b = false) : bef c a = false := by
  rw [bef_false_iff] at *; omega
theorem nb_antisymm {a b : Tn} (h1 : bef a b = false) (h2 : bef b a = false) : a = b := by
  rw [bef_false_iff] at *
  apply Tn.eq_of <;> omega
theorem nb_of_bef {a b : Tn} (h : bef a b = true) : bef b a = false := bef_asymm h

/-- The turn at place j. -/
def gt (q : List Tn) (j : Nat) : Tn := q[j]?.getD t0

theorem gt_set (q : List Tn) (i j : Nat) (x : Tn) (h : i < q.length) : gt (q.set i x) j = if i = j then x else gt q j := by
  unfold gt
  rw [List.getElem?_set]
  by_cases e : i = j
  · subst e; simp [h]
  · simp [e]
theorem gt_set_self (q : List Tn) (i : Nat) (x : Tn) (h : i < q.length) : gt (q.set i x) i = x := by rw [gt_set q i i x h, if_pos rfl]
theorem gt_set_ne (q : List Tn) (i j : Nat) (x : Tn) (h : i ≠ j) : gt (q.set i x) j = gt q j := by
  unfold gt; rw [List.getElem?_set_ne h]
theorem set_gt (q : List Tn) (i : Nat) (x : Tn) (h : gt q i = x) : q.set i x = q := by
  by_cases hi : i < q.length
  · subst h
    apply List.ext_getElem?
    intro j
    rw [List.getElem?_set]
    by_cases e : i = j
    · subst e; simp [hi, gt]
    · simp [e]
  · rw [List.set_eq_of_length_le (by omega)]
theorem set_twice (q : List Tn) (i : Nat) (x y : Tn) : (q.set i x).set i y = q.set i y := by simp
theorem set_swap (q : List Tn) (i j : Nat) (x y : Tn) (h : i ≠ j) : (q.set i x).set j y = (q.set j y).set i x := List.set_comm x y h

/-- The earlier child, c being the left one. -/
def pick (q : List Tn) (c : Nat) : Nat := if c + 1 < q.length ∧ bef (gt q (c + 1)) (gt q c) = true then c + 1 else c
theorem pick_lt (q : List Tn) (c : Nat) (h : c < q.length) : pick q c < q.length ∧ c ≤ pick q c ∧ pick q c ≤ c + 1 := by
  unfold pick; split <;> omega
theorem pick_set (q : List Tn) (c h : Nat) (x : Tn) (hc : h < c) : pick (q.set h x) c = pick q c := by
  unfold pick
  rw [gt_set_ne _ _ _ _ (by omega), gt_set_ne _ _ _ _ (by omega), List.length_set]

/-- The hole moves down to a leaf. -/
def dsc : Nat → List Tn → Nat → List Tn × Nat
  | 0, q, h => (q, h)
  | f + 1, q, h => if 2 * h + 1 < q.length then dsc f (q.set h (gt q (pick q (2 * h + 1)))) (pick q (2 * h + 1)) else (q, h)
/-- The turn moves up from there, no further than i. -/
def asc : Nat → List Tn → Tn → Nat → Nat → List Tn
  | 0, q, u, _, h => q.set h u
  | f + 1, q, u, i, h => if i < h ∧ bef u (gt q ((h - 1) / 2)) = true then asc f (q.set h (gt q ((h - 1) / 2))) u i ((h - 1) / 2) else q.set h u
def downF (q : List Tn) (i : Nat) : List Tn := if i < q.length then asc q.length (dsc q.length q i).1 (gt q i) i (dsc q.length q i).2 else q
/-- The textbook's way. -/
def zd : Nat → List Tn → Nat → List Tn
  | 0, q, _ => q
  | f + 1, q, i => if 2 * i + 1 < q.length ∧ bef (gt q (pick q (2 * i + 1))) (gt q i) = true then zd f ((q.set i (gt q (pick q (2 * i + 1)))).set (pick q (2 * i + 1)) (gt q i)) (pick q (2 * i + 1)) else q
def zdF (q : List Tn) (i : Nat) : List Tn := if i < q.length then zd q.length q i else q

theorem asc_fuel (u : Tn) (i : Nat) : ∀ (f g : Nat) (q : List Tn) (h : Nat), h ≤ f → h ≤ g → asc f q u i h = asc g q u i h
  | 0, 0, q, h => fun _ _ => rfl
  | 0, g + 1, q, h => fun hf _ => by
    have : h = 0 := by omega
    subst this
    rw [asc, asc, if_neg (by omega)]
  | f + 1, 0, q, h => fun _ hg => by
    have : h = 0 := by omega
    subst this
    rw [asc, asc, if_neg (by omega)]
  | f + 1, g + 1, q, h => fun hf hg => by
    rw [asc, asc]
    split
    · exact asc_fuel u i f g _ _ (by omega) (by omega)
    · rfl

theorem asc_len (u : Tn) (i : Nat) : ∀ (f : Nat) (q : List Tn) (h : Nat), (asc f q u i h).length = q.length
  | 0, q, h => by rw [asc, List.length_set]
  | f + 1, q, h => by
    rw [asc]
    split
    · rw [asc_len u i f, List.length_set]
    · rw [List.length_set]
theorem zd_len : ∀ (f : Nat) (q : List Tn) (i : Nat), (zd f q i).length = q.length
  | 0, q, i => rfl
  | f + 1, q, i => by
    rw [zd]
    split
    · rw [zd_len f, List.length_set, List.length_set]
    · rfl
theorem zdF_len (q : List Tn) (i : Nat) : (zdF q i).length = q.length := by
  unfold zdF; split
  · exact zd_len _ _ _
  · rfl

/-- Descent and climb at once, as far as h: the list, and whether the hole has come back to h. -/
def G (u : Tn) : Nat → List Tn → Nat → List Tn × Bool
  | 0, q, _ => (q, true)
  | f + 1, q, h =>
    if 2 * h + 1 < q.length then
      if (G u f (q.set h (gt q (pick q (2 * h + 1)))) (pick q (2 * h + 1))).2 = true then
        if bef u (gt q (pick q (2 * h + 1))) = true then (q.set h (gt q (pick q (2 * h + 1))), true) else ((q.set h (gt q (pick q (2 * h + 1)))).set (pick q (2 * h + 1)) u, false)
      else ((G u f (q.set h (gt q (pick q (2 * h + 1)))) (pick q (2 * h + 1))).1, false)
    else (q, true)

theorem G_true (u : Tn) : ∀ (f : Nat) (q : List Tn) (h : Nat), (G u f q h).2 = true → ∃ x, (G u f q h).1 = q.set h x
  | 0, q, h => fun _ => ⟨gt q h, by rw [G]; exact (set_gt q h _ rfl).symm⟩
  | f + 1, q, h => fun hb => by
    rw [G] at hb ⊢
    by_cases h1 : 2 * h + 1 < q.length
    · rw [if_pos h1] at hb ⊢
      by_cases h2 : (G u f (q.set h (gt q (pick q (2 * h + 1)))) (pick q (2 * h + 1))).2 = true
      · rw [if_pos h2] at hb ⊢
        by_cases h3 : bef u (gt q (pick q (2 * h + 1))) = true
        · rw [if_pos h3]; exact ⟨_, rfl⟩
        · rw [if_neg h3] at hb; cases hb
      · rw [if_neg h2] at hb; cases hb
    · rw [if_neg h1]; exact ⟨gt q h, (set_gt q h _ rfl).symm⟩

theorem dsc_ge : ∀ (f : Nat) (q : List Tn) (h : Nat), h < q.length → h ≤ (dsc f q h).2 ∧ (dsc f q h).2 < q.length ∧ (dsc f q h).1.length = q.length
  | 0, q, h => fun hq => by rw [dsc]; exact ⟨Nat.le_refl _, hq, rfl⟩
  | f + 1, q, h => fun hq => by
    rw [dsc]
    by_cases h1 : 2 * h + 1 < q.length
    · rw [if_pos h1]
      have hp := pick_lt q (2 * h + 1) h1
      have := dsc_ge f (q.set h (gt q (pick q (2 * h + 1)))) (pick q (2 * h + 1)) (by rw [List.length_set]; omega)
      rw [List.length_set] at this
      omega
    · rw [if_neg h1]; exact ⟨Nat.le_refl _, hq, rfl⟩

theorem downF_len (q : List Tn) (i : Nat) : (downF q i).length = q.length := by
  unfold downF
  split
  · rename_i h
    rw [asc_len, (dsc_ge q.length q i h).2.2]
  · rfl

/-- Descent, then climb: by G. -/
theorem asc_dsc (u : Tn) (i : Nat) : ∀ (f : Nat) (q : List Tn) (h : Nat), i ≤ h → h < q.length → q.length ≤ f + h →
    asc q.length (dsc f q h).1 u i (dsc f q h).2 = if (G u f q h).2 = true then asc q.length (q.set h (gt (G u f q h).1 h)) u i h else (G u f q h).1
  | 0, q, h => fun hi hq hf => by omega
  | f + 1, q, h => fun hi hq hf => by
    rw [dsc, G]
    by_cases h1 : 2 * h + 1 < q.length
    · rw [if_pos h1, if_pos h1]
      have hp := pick_lt q (2 * h + 1) h1
      have ih := asc_dsc u i f (q.set h (gt q (pick q (2 * h + 1)))) (pick q (2 * h + 1)) (by omega) (by rw [List.length_set]; omega) (by rw [List.length_set]; omega)
      rw [List.length_set] at ih
      rw [ih]
      by_cases h2 : (G u f (q.set h (gt q (pick q (2 * h + 1)))) (pick q (2 * h + 1))).2 = true
      · rw [if_pos h2, if_pos h2]
        obtain ⟨c, hc⟩ : ∃ c, c = pick q (2 * h + 1) := ⟨_, rfl⟩
        rw [← hc] at h2 hp ⊢
        obtain ⟨x, hx⟩ := G_true u f _ _ h2
        rw [hx, gt_set_self _ _ _ (by rw [List.length_set]; omega)]
        have hpar : (c - 1) / 2 = h := by omega
        obtain ⟨m, hm⟩ : ∃ m, q.length = m + 1 := ⟨q.length - 1, by omega⟩
        rw [hm, asc, hpar]
        have hg : gt ((q.set h (gt q c)).set c x) h = gt q c := by rw [gt_set_ne _ _ _ _ (by omega), gt_set_self _ _ _ hq]
        rw [hg]
        by_cases h3 : bef u (gt q c) = true
        · rw [if_pos ⟨by omega, h3⟩, if_pos h3, if_pos rfl, set_twice, gt_set_self _ _ _ hq]
          have e : (q.set h (gt q c)).set c (gt q c) = q.set h (gt q c) := set_gt _ _ _ (gt_set_ne _ _ _ _ (by omega))
          rw [e]
          exact asc_fuel u i m (m + 1) _ _ (by omega) (by omega)
        · rw [if_neg (by intro h; exact h3 h.2), if_neg h3, if_neg (by simp), set_twice]
      · rw [if_neg h2, if_neg h2, if_neg (by simp)]
    · rw [if_neg h1, if_neg h1, if_pos rfl]
      rw [set_gt q h _ rfl]

/-- The subtrees under h are heaps. -/
def HB : Nat → List Tn → Nat → Prop
  | 0, _, _ => True
  | f + 1, q, h => ∀ c, (c = 2 * h + 1 ∨ c = 2 * h + 2) → c < q.length → (∀ d, (d = 2 * c + 1 ∨ d = 2 * c + 2) → d < q.length → bef (gt q d) (gt q c) = false) ∧ HB f q c

theorem HB_set (x : Tn) (m : Nat) : ∀ (f : Nat) (q : List Tn) (h : Nat), m ≤ h → HB f q h → HB f (q.set m x) h
  | 0, _, _ => fun _ _ => trivial
  | f + 1, q, h => fun hm hh c hc hl => by
    rw [List.length_set] at hl
    have := hh c hc hl
    refine ⟨fun d hd hdl => ?_, HB_set x m f q c (by omega) this.2⟩
    rw [List.length_set] at hdl
    rw [gt_set_ne _ _ _ _ (by omega), gt_set_ne _ _ _ _ (by omega)]
    exact this.1 d hd hdl

/-- Where the hole did not come back, the first turn on its way is no later than u. -/
theorem G_false (u : Tn) : ∀ (f : Nat) (q : List Tn) (h : Nat), h < q.length → HB f q h → (G u f q h).2 = false → 2 * h + 1 < q.length ∧ bef u (gt q (pick q (2 * h + 1))) = false
  | 0, q, h => fun _ _ hb => by rw [G] at hb; cases hb
  | f + 1, q, h => fun hq hh hb => by
    rw [G] at hb
    by_cases h1 : 2 * h + 1 < q.length
    · refine ⟨h1, ?_⟩
      rw [if_pos h1] at hb
      have hp := pick_lt q (2 * h + 1) h1
      obtain ⟨c, hc⟩ : ∃ c, c = pick q (2 * h + 1) := ⟨_, rfl⟩
      rw [← hc] at hb hp ⊢
      by_cases h2 : (G u f (q.set h (gt q c)) c).2 = true
      · rw [if_pos h2] at hb
        by_cases h3 : bef u (gt q c) = true
        · rw [if_pos h3] at hb; cases hb
        · simpa using h3
      · have hcc := hh c (by omega) (by omega)
        have ih := G_false u f (q.set h (gt q c)) c (by rw [List.length_set]; omega) (HB_set _ _ _ _ _ (by omega) hcc.2) (by simpa using h2)
        rw [List.length_set, pick_set _ _ _ _ (by omega)] at ih
        have hp2 := pick_lt q (2 * c + 1) ih.1
        rw [gt_set_ne _ _ _ _ (by omega)] at ih
        have hd := hcc.1 (pick q (2 * c + 1)) (by omega) (by omega)
        exact nb_trans hd ih.2 |> fun h => by
          rw [bef_false_iff] at *; omega
    · rw [if_neg h1] at hb; cases hb

/-- THE TWO WAYS AGREE. -/
theorem G_zd (u : Tn) : ∀ (f : Nat) (q : List Tn) (h : Nat), h < q.length → HB f q h → q.length ≤ f + h →
    (if (G u f q h).2 = true then (G u f q h).1.set h u else (G u f q h).1) = zd f (q.set h u) h
  | 0, q, h => fun hq _ hf => by omega
  | f + 1, q, h => fun hq hh hf => by
    rw [G, zd, List.length_set]
    by_cases h1 : 2 * h + 1 < q.length
    · rw [if_pos h1, pick_set _ _ _ _ (by omega)]
      have hp := pick_lt q (2 * h + 1) h1
      obtain ⟨c, hc⟩ : ∃ c, c = pick q (2 * h + 1) := ⟨_, rfl⟩
      rw [← hc] at hp ⊢
      rw [gt_set_self _ _ _ hq, gt_set_ne _ _ _ _ (show h ≠ c by omega)]
      have hcc := hh c (by omega) (by omega)
      have hHB := HB_set (gt q c) h f q c (by omega) hcc.2
      have ih := G_zd u f (q.set h (gt q c)) c (by rw [List.length_set]; omega) hHB (by rw [List.length_set]; omega)
      by_cases hcu : bef (gt q c) u = true
      · refine Eq.trans ?_ (if_pos ⟨h1, hcu⟩).symm
        rw [set_twice, ← ih]
        by_cases h2 : (G u f (q.set h (gt q c)) c).2 = true
        · rw [if_pos h2, if_pos h2, if_neg (show ¬ bef u (gt q c) = true by rw [bef_asymm hcu]; simp)]
          simp only [Bool.false_eq_true, if_false]
          obtain ⟨x, hx⟩ := G_true u f _ _ h2
          rw [hx, set_twice]
        · rw [if_neg h2, if_neg (by simp), if_neg h2]
      · have hcu' : bef (gt q c) u = false := by simpa using hcu
        refine Eq.trans ?_ (if_neg (fun h => hcu h.2)).symm
        -- the fold at c stops at once
        have hz : zd f ((q.set h (gt q c)).set c u) c = (q.set h (gt q c)).set c u := by
          cases f with
          | zero => rfl
          | succ f =>
            rw [zd]
            refine if_neg ?_
            rintro ⟨g1, g2⟩
            rw [List.length_set, List.length_set] at g1
            have hp2 := pick_lt q (2 * c + 1) g1
            rw [pick_set _ _ _ _ (by omega), pick_set _ _ _ _ (by omega), gt_set_ne _ _ _ _ (by omega), gt_set_ne _ _ _ _ (by omega), gt_set_self _ _ _ (by rw [List.length_set]; omega)] at g2
            have hd := hcc.1 (pick q (2 * c + 1)) (by omega) (by omega)
            have := nb_trans hcu' hd
            rw [this] at g2; cases g2
        rw [hz] at ih
        by_cases h2 : (G u f (q.set h (gt q c)) c).2 = true
        · rw [if_pos h2]
          by_cases h3 : bef u (gt q c) = true
          · rw [if_pos h3, if_pos rfl, set_twice]
          · rw [if_neg h3, if_neg (by simp)]
            have e : gt q c = u := nb_antisymm hcu' (by simpa using h3)
            rw [e]
            exact set_gt _ _ _ (by rw [gt_set_ne _ _ _ _ (by omega)]; exact e)
        · rw [if_neg h2] at ih ⊢
          rw [if_neg (by simp), ih]
          have hgf := G_false u f (q.set h (gt q c)) c (by rw [List.length_set]; omega) hHB (by simpa using h2)
          rw [List.length_set, pick_set _ _ _ _ (by omega)] at hgf
          have hp2 := pick_lt q (2 * c + 1) hgf.1
          rw [gt_set_ne _ _ _ _ (by omega)] at hgf
          have hd := hcc.1 (pick q (2 * c + 1)) (by omega) (by omega)
          have e : gt q c = u := by
            have h5 := hgf.2
            rw [bef_false_iff] at hcu' hd h5
            apply Tn.eq_of <;> omega
          rw [e]
          exact set_gt _ _ _ (by rw [gt_set_ne _ _ _ _ (by omega)]; exact e)
    · rw [if_neg h1, if_pos rfl, if_neg (by intro h; exact h1 h.1)]

theorem downF_zdF (q : List Tn) (i : Nat) (h : HB q.length q i) : downF q i = zdF q i := by
  unfold downF zdF
  by_cases hi : i < q.length
  · rw [if_pos hi, if_pos hi, asc_dsc (gt q i) i q.length q i (Nat.le_refl _) hi (by omega)]
    have hz := G_zd (gt q i) q.length q i hi h (by omega)
    rw [set_gt q i _ rfl] at hz
    rw [← hz]
    by_cases h2 : (G (gt q i) q.length q i).2 = true
    · rw [if_pos h2, if_pos h2]
      obtain ⟨x, hx⟩ := G_true _ _ _ _ h2
      obtain ⟨m, hm⟩ : ∃ m, q.length = m + 1 := ⟨q.length - 1, by omega⟩
      rw [hx, gt_set_self _ _ _ hi, hm, asc, if_neg (by omega)]
    · rw [if_neg h2, if_neg h2]
  · rw [if_neg hi, if_neg hi]
end Go.Proofs.Qxb6003262a
