/-
  Plain mathematics: heaps, merge sort, heap sort.
-/
import Derived.Test.Qxb6003262aHeapPlain
namespace Go.Proofs.Qxb6003262a
set_option linter.unusedVariables false

/-- a may stand ahead of b. -/
def Le (a b : Tn) : Prop := bef b a = false
theorem Le.trans {a b c : Tn} (h1 : Le a b) (h2 : Le b c) : Le a c := nb_trans h1 h2
theorem Le.refl (a : Tn) : Le a a := bef_irrefl a
theorem Le.of {a b : Tn} (h : bef a b = true) : Le a b := bef_asymm h

/-- Two rows in order with the same turns are one. -/
theorem sorted_unique {p q : List Tn} (hp : p.Pairwise Le) (hq : q.Pairwise Le) (h : p.Perm q) : p = q :=
  List.Perm.eq_of_pairwise (fun a b _ _ h1 h2 => nb_antisymm h2 h1) hp hq h

/-! ### Merging -/
def mrg : Nat → List Tn → List Tn → List Tn
  | 0, a, b => a ++ b
  | f + 1, a, b => match a, b with
    | [], b => b
    | a, [] => a
    | x :: xs, y :: ys => if bef y x = true then y :: mrg f (x :: xs) ys else x :: mrg f xs (y :: ys)

theorem mrg_nil_left (f : Nat) (b : List Tn) : mrg f [] b = b := by cases f <;> simp [mrg]
theorem mrg_nil_right (f : Nat) (a : List Tn) : mrg f a [] = a := by
  cases f with
  | zero => simp [mrg]
  | succ f => cases a <;> rfl
theorem mrg_perm : ∀ (f : Nat) (a b : List Tn), (mrg f a b).Perm (a ++ b)
  | 0, a, b => List.Perm.refl _
  | f + 1, [], b => List.Perm.refl _
  | f + 1, x :: xs, [] => by rw [mrg_nil_right]; simp
  | f + 1, x :: xs, y :: ys => by
    rw [mrg]
    split
    · exact ((mrg_perm f (x :: xs) ys).cons y).trans (List.perm_middle (l₁ := x :: xs)).symm
    · exact (mrg_perm f xs (y :: ys)).cons x
theorem mrg_sorted : ∀ (f : Nat) (a b : List Tn), a.length + b.length ≤ f → a.Pairwise Le → b.Pairwise Le → (mrg f a b).Pairwise Le
  | 0, a, b => fun h _ _ => by
    have h1 : a = [] := List.eq_nil_of_length_eq_zero (by omega)
    have h2 : b = [] := List.eq_nil_of_length_eq_zero (by omega)
    subst h1; subst h2
    simp [mrg]
  | f + 1, [], b => fun _ _ hb => by rw [mrg_nil_left]; exact hb
  | f + 1, x :: xs, [] => fun _ ha _ => by rw [mrg_nil_right]; exact ha
  | f + 1, x :: xs, y :: ys => fun h ha hb => by
    rw [mrg]
    have ha' := List.pairwise_cons.1 ha
    have hb' := List.pairwise_cons.1 hb
    simp at h
    split
    · rename_i hyx
      refine List.pairwise_cons.2 ⟨fun z hz => ?_, mrg_sorted f (x :: xs) ys (by simp; omega) ha hb'.2⟩
      rcases List.mem_append.1 ((mrg_perm f (x :: xs) ys).mem_iff.1 hz) with hz | hz
      · rcases List.mem_cons.1 hz with rfl | hz
        · exact Le.of hyx
        · exact (Le.of hyx).trans (ha'.1 z hz)
      · exact hb'.1 z hz
    · rename_i hyx
      have hxy : Le x y := by simpa [Le] using hyx
      refine List.pairwise_cons.2 ⟨fun z hz => ?_, mrg_sorted f xs (y :: ys) (by simp; omega) ha'.2 hb⟩
      rcases List.mem_append.1 ((mrg_perm f xs (y :: ys)).mem_iff.1 hz) with hz | hz
      · exact ha'.1 z hz
      · rcases List.mem_cons.1 hz with rfl | hz
        · exact hxy
        · exact hxy.trans (hb'.1 z hz)

/-! ### Heaps -/
/-- From node m on no turn comes before its parent. -/
def Hp (m : Nat) (q : List Tn) : Prop := ∀ k, 1 ≤ k → k < q.length → m ≤ (k - 1) / 2 → bef (gt q k) (gt q ((k - 1) / 2)) = false

theorem Hp_HB (q : List Tn) (m : Nat) (h : Hp (m + 1) q) : ∀ (f x : Nat), m ≤ x → HB f q x
  | 0, _ => fun _ => trivial
  | f + 1, x => fun hx c hc hl => by
    refine ⟨fun d hd hdl => ?_, Hp_HB q m h f c (by omega)⟩
    have := h d (by omega) hdl (by omega)
    rw [show (d - 1) / 2 = c by omega] at this
    exact this
theorem pick_min (q : List Tn) (i k : Nat) (hk : k = 2 * i + 1 ∨ k = 2 * i + 2) (hl : k < q.length) : bef (gt q k) (gt q (pick q (2 * i + 1))) = false := by
  unfold pick
  split
  · rename_i h
    rcases hk with rfl | rfl
    · exact bef_asymm h.2
    · exact bef_irrefl _
  · rename_i h
    rcases hk with rfl | rfl
    · exact bef_irrefl _
    · have : ¬ bef (gt q (2 * i + 1 + 1)) (gt q (2 * i + 1)) = true := fun hb => h ⟨by omega, hb⟩
      simpa using this

theorem zd_heap (m : Nat) : ∀ (f : Nat) (q : List Tn) (i : Nat), m ≤ i → i < q.length → q.length ≤ f + i →
    (∀ k, 1 ≤ k → k < q.length → m ≤ (k - 1) / 2 → (k - 1) / 2 ≠ i → bef (gt q k) (gt q ((k - 1) / 2)) = false) →
    (∀ k, (k = 2 * i + 1 ∨ k = 2 * i + 2) → k < q.length → 1 ≤ i → m ≤ (i - 1) / 2 → bef (gt q k) (gt q ((i - 1) / 2)) = false) → Hp m (zd f q i)
  | 0, q, i => fun _ hi hf _ _ => by omega
  | f + 1, q, i => fun hm hi hf h1 h2 => by
    rw [zd]
    by_cases hc : 2 * i + 1 < q.length ∧ bef (gt q (pick q (2 * i + 1))) (gt q i) = true
    · rw [if_pos hc]
      have hp := pick_lt q (2 * i + 1) hc.1
      have hmin := pick_min q i
      obtain ⟨c, ec⟩ : ∃ c, c = pick q (2 * i + 1) := ⟨_, rfl⟩
      rw [← ec] at hc hp hmin ⊢
      have hcn : i ≠ c := by omega
      have gi : gt ((q.set i (gt q c)).set c (gt q i)) i = gt q c := by rw [gt_set_ne _ _ _ _ (by omega), gt_set_self _ _ _ hi]
      have gc : gt ((q.set i (gt q c)).set c (gt q i)) c = gt q i := gt_set_self _ _ _ (by rw [List.length_set]; omega)
      have go : ∀ j, j ≠ i → j ≠ c → gt ((q.set i (gt q c)).set c (gt q i)) j = gt q j := fun j hj1 hj2 => by rw [gt_set_ne _ _ _ _ (by omega), gt_set_ne _ _ _ _ (by omega)]
      refine zd_heap m f _ c (by omega) (by simp; omega) (by simp; omega) ?_ ?_
      · intro k hk1 hkl hmk hkc
        simp at hkl
        by_cases e1 : k = i
        · subst e1
          rw [gi, go _ (by omega) (by omega)]
          exact h2 c (by omega) (by omega) hk1 hmk
        · by_cases e2 : (k - 1) / 2 = i
          · rw [e2, gi]
            by_cases e3 : k = c
            · subst e3; rw [gc]; exact bef_asymm hc.2
            · rw [go k e1 e3]; exact hmin k (by omega) hkl
          · have e3 : k ≠ c := by omega
            rw [go k e1 e3, go _ e2 hkc]
            exact h1 k hk1 hkl hmk e2
      · intro k hk hkl hc1 hmc
        simp at hkl
        rw [show (c - 1) / 2 = i by omega, gi, go k (by omega) (by omega)]
        have := h1 k (by omega) hkl (by omega) (by omega)
        rw [show (k - 1) / 2 = c by omega] at this
        exact this
    · rw [if_neg hc]
      intro k hk1 hkl hmk
      by_cases e : (k - 1) / 2 = i
      · rw [e]
        have hl : 2 * i + 1 < q.length := by omega
        have hci : bef (gt q (pick q (2 * i + 1))) (gt q i) = false := by
          have : ¬ bef (gt q (pick q (2 * i + 1))) (gt q i) = true := fun h => hc ⟨hl, h⟩
          simpa using this
        exact nb_trans hci (pick_min q i k (by omega) hkl)
      · exact h1 k hk1 hkl hmk e

theorem zd_perm : ∀ (f : Nat) (q : List Tn) (i : Nat), i < q.length → (zd f q i).Perm q
  | 0, q, i => fun _ => List.Perm.refl _
  | f + 1, q, i => fun hi => by
    rw [zd]
    by_cases hc : 2 * i + 1 < q.length ∧ bef (gt q (pick q (2 * i + 1))) (gt q i) = true
    · rw [if_pos hc]
      have hp := pick_lt q (2 * i + 1) hc.1
      refine (zd_perm f _ _ (by simp; omega)).trans ?_
      have e1 : gt q (pick q (2 * i + 1)) = q[pick q (2 * i + 1)]'hp.1 := by unfold gt; rw [List.getElem?_eq_getElem hp.1]; rfl
      have e2 : gt q i = q[i] := by unfold gt; rw [List.getElem?_eq_getElem hi]; rfl
      rw [e1, e2]
      exact List.set_set_perm hi hp.1
    · rw [if_neg hc]

/-- One step of the heap's making, or of its mending. -/
theorem down_heap (q : List Tn) (m : Nat) (h : Hp (m + 1) q) (hm : m < q.length ∨ q = []) : Hp m (downF q m) ∧ (downF q m).Perm q := by
  rw [downF_zdF q m (Hp_HB q m h q.length m (Nat.le_refl _))]
  unfold zdF
  rcases hm with hm | rfl
  · rw [if_pos hm]
    refine ⟨zd_heap m q.length q m (Nat.le_refl _) hm (by omega) (fun k h1 h2 h3 h4 => h k h1 h2 (by omega)) (fun k h1 h2 h3 h4 => by omega), zd_perm _ _ _ hm⟩
  · rw [if_neg (by simp)]
    exact ⟨fun k h1 h2 => by simp at h2, List.Perm.refl _⟩
theorem Hp_half (q : List Tn) : Hp (q.length / 2) q := fun k h1 h2 h3 => by omega
theorem heap_root (q : List Tn) (h : Hp 0 q) : ∀ (b k : Nat), k ≤ b → k < q.length → Le (gt q 0) (gt q k)
  | 0, k => fun hb hk => by rw [show k = 0 by omega]; exact Le.refl _
  | b + 1, k => fun hb hk => by
    by_cases h0 : k = 0
    · rw [h0]; exact Le.refl _
    · exact (heap_root q h b ((k - 1) / 2) (by omega) (by omega)).trans (h k (by omega) hk (by omega))
theorem heap_root_mem (q : List Tn) (h : Hp 0 q) (y : Tn) (hy : y ∈ q) : Le (gt q 0) y := by
  obtain ⟨k, hk, rfl⟩ := List.mem_iff_getElem.1 hy
  have := heap_root q h k k (Nat.le_refl _) hk
  have e : gt q k = q[k] := by unfold gt; rw [List.getElem?_eq_getElem hk]; rfl
  rw [e] at this
  exact this

/-- What is left when the root is taken and the last turn put in its place. -/
def popped (q : List Tn) : List Tn := (q.set 0 (gt q (q.length - 1))).take (q.length - 1)
theorem popped_len (q : List Tn) : (popped q).length = q.length - 1 := by simp [popped]
theorem popped_gt (q : List Tn) (k : Nat) (h1 : 1 ≤ k) (h2 : k < q.length - 1) : gt (popped q) k = gt q k := by
  unfold popped gt
  rw [List.getElem?_take_of_lt h2, List.getElem?_set_ne (by omega)]
theorem popped_heap (q : List Tn) (h : Hp 0 q) : Hp 1 (popped q) := by
  intro k h1 h2 h3
  rw [popped_len] at h2
  rw [popped_gt q k h1 h2, popped_gt q _ h3 (by omega)]
  exact h k h1 (by omega) (by omega)
theorem popped_perm (q : List Tn) (hq : 0 < q.length) : q.Perm (gt q 0 :: popped q) := by
  match q, hq with
  | x :: xs, _ =>
    by_cases hx : xs = []
    · subst hx; simp [popped, gt]
    · have hpos : 0 < xs.length := List.length_pos_iff.2 hx
      have e1 : gt (x :: xs) 0 = x := rfl
      have e2 : popped (x :: xs) = xs.getLast hx :: xs.dropLast := by
        unfold popped
        have hlast : gt (x :: xs) ((x :: xs).length - 1) = xs.getLast hx := by
          unfold gt
          rw [List.getLast_eq_getElem, List.getElem?_eq_getElem (by simp)]
          simp only [Option.getD_some, List.length_cons, Nat.add_sub_cancel]
          rw [List.getElem_cons]
          split
          · omega
          · rfl
        rw [hlast, List.set_cons_zero, List.length_cons, Nat.add_sub_cancel]
        obtain ⟨m, hm⟩ : ∃ m, xs.length = m + 1 := ⟨xs.length - 1, by omega⟩
        rw [hm, List.take_succ_cons, List.dropLast_eq_take, hm]
        rfl
      rw [e1, e2]
      refine List.Perm.cons x ?_
      have : xs = xs.dropLast ++ [xs.getLast hx] := (List.dropLast_concat_getLast hx).symm
      exact (this ▸ List.Perm.refl _ : xs.Perm (xs.dropLast ++ [xs.getLast hx])).trans (List.perm_append_comm)

/-- Where the taking out stands. -/
structure Taking (q o h : List Tn) : Prop where
  heap : Hp 0 h
  perm : (o ++ h).Perm q
  sort : o.Pairwise Le
  ahead : ∀ x ∈ o, ∀ y ∈ h, Le x y
theorem Taking.step {q o h : List Tn} (t : Taking q o h) (hh : 0 < h.length) : Taking q (o ++ [gt h 0]) (downF (popped h) 0) := by
  have hd := down_heap (popped h) 0 (popped_heap h t.heap) (by
    by_cases e : popped h = []
    · exact .inr e
    · exact .inl (List.length_pos_iff.2 e))
  have hpp := popped_perm h hh
  have hm : ∀ y, y ∈ downF (popped h) 0 → y ∈ h := fun y hy => hpp.mem_iff.2 (List.mem_cons_of_mem _ (hd.2.mem_iff.1 hy))
  have h0 : gt h 0 ∈ h := hpp.mem_iff.2 (List.mem_cons_self)
  refine ⟨hd.1, ?_, ?_, ?_⟩
  · rw [List.append_assoc]
    exact ((((hd.2.cons (gt h 0)).trans hpp.symm).append_left o)).trans t.perm
  · refine List.pairwise_append.2 ⟨t.sort, by simp, fun a ha b hb => ?_⟩
    simp at hb; subst hb
    exact t.ahead a ha _ h0
  · intro x hx y hy
    rcases List.mem_append.1 hx with hx | hx
    · exact t.ahead x hx y (hm y hy)
    · simp at hx; subst hx
      exact heap_root_mem h t.heap y (hm y hy)
end Go.Proofs.Qxb6003262a
