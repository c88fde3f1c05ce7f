/-
  The walk of zzCloneRecord.
-/
import Derived.Test.Qxb6603151aCounts
namespace Go.Proofs.Qxb6603151a
set_option linter.unusedVariables false
open Go.RowKit

theorem Try.info41 : (Try.prog.info? 41).map (fun i => (i.zero, i.size, i.bytes)) = some (some (.slice none 0 0), 1, 24) := by kernel_rfl
theorem Try.infoB : (Try.prog.info? 5).map (fun i => (i.zero, i.size, i.bytes)) = some (some (.int .u8 0), 1, 1) := by kernel_rfl

/-- A field's copy, made since w0. -/
structure GIn (w0 wr : World) (f g : Fd) : Prop where
  inn : FIn wr g
  zs : g.zs = f.zs
  ad : g.a = none ∨ ∃ b, g.a = some ⟨b, 0, none⟩ ∧ w0.heap.size < b ∧ b < wr.heap.size

theorem GIn.keep {w0 wr wr' : World} {f g : Fd} (h : GIn w0 wr f g) (hb : ∀ b, w0.heap.size < b → b < wr.heap.size → wr'.heap[b]? = wr.heap[b]?) (hs : wr.heap.size ≤ wr'.heap.size) : GIn w0 wr' f g := by
  obtain ⟨hi, hz, ha⟩ := h
  refine ⟨⟨hi.len, hi.max, hi.byte, hi.nil, ?_⟩, hz, ?_⟩
  · rcases hi.row with h0 | ⟨b, off, e, hc⟩
    · exact .inl h0
    · refine .inr ⟨b, off, e, fun j hj => ?_⟩
      rcases ha with hn | ⟨b', e', l1, l2⟩
      · rw [hn] at e; cases e
      · rw [e'] at e
        simp at e
        obtain ⟨rfl, rfl⟩ := e
        rw [World.cell?_of_block (w := wr) (hb b' l1 l2)]
        exact hc j hj
  · rcases ha with hn | ⟨b', e', l1, l2⟩
    · exact .inl hn
    · exact .inr ⟨b', e', l1, by omega⟩

/-- What the outer loop has copied so far. -/
def Cl (w0 wr : World) (n k : Nat) (F : Nat → Fd) : Prop :=
  ∃ (G : Nat → Fd) (xs : List Value), wr.ownsRow w0.heap.size 41 1 (.slice (some ⟨w0.heap.size, 0, none⟩) n n) n xs ∧
    (∀ j, j < k → xs[j]? = some (.slice (G j).a (G j).n (G j).c)) ∧ (∀ j, k ≤ j → j < n → xs[j]? = some (.slice none 0 0)) ∧
    (∀ j, j < k → GIn w0 wr (F j) (G j)) ∧ Below w0.heap.size w0 wr ∧ w0.heap.size < wr.heap.size

/-- What the inner loop has copied so far. -/
def Cb (w0 wr : World) (m k : Nat) (zs : List Int) : Prop :=
  ∃ xs : List Value, wr.ownsRow w0.heap.size 5 1 (.slice (some ⟨w0.heap.size, 0, none⟩) m m) m xs ∧
    (∀ j, j < k → xs[j]? = some (.int .u8 (zs[j]?.getD 0))) ∧ Below w0.heap.size w0 wr ∧ w0.heap.size < wr.heap.size

theorem Cb.cell {w wr : World} {n k : Nat} {S : List Int} (h : Cb w wr n k S) (hk : k < n) : ∃ v, wr.cell? ⟨w.heap.size, k, none⟩ = some v := by
  obtain ⟨xs, ho, _⟩ := h
  have hl := ho.1
  rw [ho.cellAt k (by omega)]
  exact ⟨xs[k]'(by omega), by simp [show k < xs.length by omega]⟩
theorem Cb.frozen {w wr : World} {n k : Nat} {S : List Int} (h : Cb w wr n k S) (j : Nat) : wr.frozen? ⟨w.heap.size, j, none⟩ = false := by
  obtain ⟨xs, ho, _⟩ := h
  exact ho.frozenAt j
theorem Cb.step {w wr : World} {n k : Nat} {S : List Int} (h : Cb w wr n k S) (hk : k < n) :
    Cb w (wr.setCell ⟨w.heap.size, k, none⟩ (.int .u8 (S[k]?.getD 0))) n (k + 1) S := by
  obtain ⟨xs, ho, hx, hb, hs⟩ := h
  have hl := ho.1
  have hst := ho.stored k (.int .u8 (S[k]?.getD 0))
  refine ⟨_, hst.1, fun j hj => ?_, hb.setCell (Nat.le_refl _) _, by simpa using hs⟩
  by_cases e : j = k
  · subst e; rw [List.getElem?_set_self (by omega)]
  · rw [List.getElem?_set_ne (by omega)]; exact hx j (by omega)

theorem Cl.cell {w wr : World} {n k : Nat} {F : Nat → Fd} (h : Cl w wr n k F) (hk : k < n) : wr.cell? ⟨w.heap.size, k, none⟩ = some (.slice none 0 0) := by
  obtain ⟨G, xs, ho, _, h0, _⟩ := h
  rw [ho.cellAt k (by omega)]
  exact h0 k (Nat.le_refl _) hk
theorem Cl.frozen {w wr : World} {n k : Nat} {F : Nat → Fd} (h : Cl w wr n k F) (j : Nat) : wr.frozen? ⟨w.heap.size, j, none⟩ = false := by
  obtain ⟨G, xs, ho, _⟩ := h
  exact ho.frozenAt j
theorem Cl.bel {w wr : World} {n k : Nat} {F : Nat → Fd} (h : Cl w wr n k F) : Below w.heap.size w wr := by
  obtain ⟨G, xs, ho, _, _, _, hb, _⟩ := h
  exact hb
theorem Cl.lt {w wr : World} {n k : Nat} {F : Nat → Fd} (h : Cl w wr n k F) : w.heap.size < wr.heap.size := by
  obtain ⟨G, xs, ho, _, _, _, _, hb⟩ := h
  exact hb
theorem Cb.bel {w wr : World} {n k : Nat} {F : List Int} (h : Cb w wr n k F) : Below w.heap.size w wr := by
  obtain ⟨xs, ho, _, hb, _⟩ := h
  exact hb

/-- A nil field. -/
theorem Cl.skip {w wr : World} {n k : Nat} {F : Nat → Fd} (h : Cl w wr n k F) (hk : k < n) (hi : FIn w (F k)) (ha : (F k).a = none) : Cl w wr n (k + 1) F := by
  obtain ⟨G, xs, ho, hx, h0, hg, hb, hs⟩ := h
  refine ⟨fun j => if j = k then ⟨none, 0, 0, []⟩ else G j, xs, ho, fun j hj => ?_, fun j hj => h0 j (by omega), fun j hj => ?_, hb, hs⟩
  · by_cases e : j = k
    · subst e; simp; exact h0 j (Nat.le_refl _) hk
    · simp [e]; exact hx j (by omega)
  · by_cases e : j = k
    · subst e
      simp
      have hz : (F j).zs = [] := List.eq_nil_of_length_eq_zero (by rw [hi.len]; exact (hi.nil ha).1)
      exact ⟨⟨rfl, by simp, by simp, fun _ => ⟨rfl, rfl⟩, .inl rfl⟩, hz.symm, .inl rfl⟩
    · simp [e]; exact hg j (by omega)

/-- A field copied, and laid into the row. -/
theorem Cl.put {w wo wr : World} {n k : Nat} {F : Nat → Fd} (h : Cl w wo n k F) (hk : k < n) (hi : FIn w (F k)) (hc : Cb wo wr (F k).n (F k).n (F k).zs) :
    Cl w (wr.setCell ⟨w.heap.size, k, none⟩ (.slice (some ⟨wo.heap.size, 0, none⟩) (F k).n (F k).n)) n (k + 1) F := by
  obtain ⟨G, xs, ho, hx, h0, hg, hb, hs⟩ := h
  obtain ⟨ys, yo, hy, yb, ysz⟩ := hc
  have hgr : wo.grownBy wr none := ⟨yb.os, yb.tape, yb.output, yb.size, fun j hj _ => yb.block j hj⟩
  have ho' := ho.kept hgr (.inr (by simp [Value.ownBlock]))
  have hst := ho'.stored k (.slice (some ⟨wo.heap.size, 0, none⟩) (F k).n (F k).n)
  have hl := ho.1
  refine ⟨fun j => if j = k then ⟨some ⟨wo.heap.size, 0, none⟩, (F k).n, (F k).n, (F k).zs⟩ else G j, _, hst.1, fun j hj => ?_, fun j hj hj' => ?_, fun j hj => ?_, (hb.trans (yb.mono (Nat.le_of_lt hs))).setCell (Nat.le_refl _) _, ?_⟩
  · by_cases e : j = k
    · subst e; rw [List.getElem?_set_self (by omega)]; simp
    · simp [e]; rw [List.getElem?_set_ne (by omega)]; exact hx j (by omega)
  · rw [List.getElem?_set_ne (by omega)]; exact h0 j (by omega) hj'
  · by_cases e : j = k
    · subst e
      simp
      refine ⟨⟨hi.len, hi.max, hi.byte, (fun h => by cases h), .inr ⟨wo.heap.size, 0, rfl, fun i hij => ?_⟩⟩, rfl, .inr ⟨wo.heap.size, rfl, hs, by simpa using ysz⟩⟩
      rw [World.cell?_of_block (w := wr) (Below.heap_setCell _ _ _ _ (by simp; omega)), Nat.zero_add, yo.cellAt i (by simpa using hij)]
      exact hy i hij
    · simp [e]
      refine (hg j (by omega)).keep (fun b l1 l2 => ?_) (by have := yb.size; simpa using this)
      rw [Below.heap_setCell _ _ _ _ (by simp; omega)]
      exact yb.block b l2
  · have := yb.size; simp; omega

set_option maxHeartbeats 1000000 in
theorem cloneR_some (y : Addr) (n c : Nat) (F : Nat → Fd) (w : World) (hn : n ≤ 65536) (hF : ∀ j, j < n → FIn w (F j)) (hF2 : ∀ j, j < n → (F j).n ≤ 1048576)
    (hc : ∀ j, j < n → y.spot = none ∧ w.cell? ⟨y.block, y.off + j, none⟩ = some (.slice (F j).a (F j).n (F j).c)) :
    Calls Try.prog 19 #[.slice (some y) n c] w fun e w' => e = .returned (.slice (some ⟨w.heap.size, 0, none⟩) n n) ∧ Cl w w' n n F := by
  have q35 : ∀ (w : World) (a : Option Addr) (n c n' c' : Nat), (binOp .eql 35 (.slice a n c) (.slice none n' c')).run Try.prog w = .ok (.bool a.isNone) w := fun w a n c n' c' => Lib.run_eql_slice_nil w _ _ a n c n' c' Try.underlying35
  have q41 : ∀ (w : World) (a : Option Addr) (n c n' c' : Nat), (binOp .eql 41 (.slice a n c) (.slice none n' c')).run Try.prog w = .ok (.bool a.isNone) w := fun w a n c n' c' => Lib.run_eql_slice_nil w _ _ a n c n' c' Try.underlying41
  obtain ⟨i0, hi, hz0, hz1, hz2⟩ := info_parts Try.info41
  obtain ⟨i1, hj, hy0, hy1, hy2⟩ := info_parts Try.infoB
  go_enter Try.func19, Try.ntmps19
  go_wp2_with (at_make; refine wpList_make_full _ rfl (.tmp 11) (.tmp 11) 35 rfl w.heap.size 41 i0 (.slice none 0 0) 1 Try.underlying35 hi hz0 hz1 .i64 .i64 n n n rfl rfl rfl rfl (by rw [hz2]; omega) (by unfold maxLen; omega) (Nat.le_refl _) ?_; intro w1 hown hgrow)
  have H0 : Cl w w1 n 0 F := ⟨fun _ => ⟨none, 0, 0, []⟩, _, hown, fun j hj => by omega, fun j _ hj => by rw [Nat.mul_one]; show (madeCells #[.slice none 0 0] n).toList[j]? = _; rw [toList_madeCells_one]; simp [hj], fun j hj => by omega, (Below.refl _ _).grown hgrow (Nat.le_refl _) (fun k hk => by cases hk), (hown.lt _ rfl).2⟩
  clear hown hgrow
  go_loopw [4] (fun q wr => ∃ k : Nat, k ≤ n ∧ q = .int .i64 (k : Int) ∧ Cl w wr n k F) (fun q _ => n - (intOf q).toNat)
  case atStart => exact ⟨0, by omega, rfl, H0⟩
  case round =>
    obtain ⟨k, hk, rfl, HC⟩ := hrel
    by_cases hlt : k < n
    · obtain ⟨b, off, yp⟩ := y
      have hyp : yp = none := (hc k hlt).1
      subst hyp
      have hcell : wr.cell? ⟨b, off + k, none⟩ = some (.slice (F k).a (F k).n (F k).c) := by
        have h := (hc k hlt).2
        rw [HC.bel.cell (World.block_lt_of_cell? _ _ h)]; exact h
      have hFk := hF k hlt
      have hFk2 := hF2 k hlt
      clear hc H0 hF hF2
      by_cases ha : (F k).a = none
      · have HS := HC.skip hlt hFk ha
        go_wp2
        go_roundw
        case rel => exact ⟨k + 1, by omega, by go_num, HS⟩
        case measure => simp [intOf]; omega
      · obtain ⟨x, hx⟩ := Option.ne_none_iff_exists'.1 ha
        rw [hx] at hcell
        have hrow : ∀ j, j < (F k).n → x.spot = none ∧ w.cell? ⟨x.block, x.off + j, none⟩ = some (.int .u8 ((F k).zs[j]?.getD 0)) := by
          intro j hj
          rcases hFk.row with h0 | ⟨fb, fo, e, hc⟩
          · omega
          · rw [hx] at e
            obtain rfl := Option.some.inj e
            exact ⟨rfl, hc j hj⟩
        obtain ⟨wo, rfl⟩ : ∃ wo : World, wo = wr := ⟨_, rfl⟩
        have hput := fun (wr : World) => HC.put (wr := wr) hlt hFk
        have hbel := HC.bel
        have hwlt := HC.lt
        have hcl := HC.cell hlt
        have hfz := HC.frozen k
        clear HC
        generalize hm : (F k).n = m at *
        generalize hzs : (F k).zs = zs at *
        clear hFk ha hx hm hzs
        go_wp2_with (at_make; refine wpList_make_full _ rfl (.tmp 26) (.tmp 26) 41 rfl wo.heap.size 5 i1 (.int .u8 0) 1 Try.underlying41 hj hy0 hy1 .i64 .i64 m m m rfl rfl rfl rfl (by rw [hy2]; omega) (by unfold maxLen; omega) (Nat.le_refl _) ?_; intro w2 hown hgrow)
        have H0 : Cb wo w2 m 0 zs := ⟨_, hown, fun j hj => by omega, (Below.refl _ _).grown hgrow (Nat.le_refl _) (fun k hk => by cases hk), (hown.lt _ rfl).2⟩
        clear hown hgrow hcell
        go_loopw [7] (fun q wr => ∃ i : Nat, i ≤ m ∧ q = .int .i64 (i : Int) ∧ Cb wo wr m i zs) (fun q _ => m - (intOf q).toNat)
        case atStart => exact ⟨0, by omega, rfl, H0⟩
        case round =>
          obtain ⟨i, him, rfl, HB⟩ := hrel
          by_cases hil : i < m
          · obtain ⟨fb, fo, sp⟩ := x
            have hsp : sp = none := (hrow i hil).1
            subst hsp
            have hcell : wr.cell? ⟨fb, fo + i, none⟩ = some (.int .u8 (zs[i]?.getD 0)) := by
              have h := (hrow i hil).2
              have hlt1 := World.block_lt_of_cell? _ _ h
              rw [HB.bel.cell (p := ⟨fb, fo + i, none⟩) (by have := hbel.size; simp at hlt1 ⊢; omega), hbel.cell (p := ⟨fb, fo + i, none⟩) hlt1]; exact h
            obtain ⟨v, hv⟩ := HB.cell hil
            have hf := HB.frozen i
            have HS := HB.step hil
            clear hrow HB H0 hput hcl hfz
            go_wp2
            go_roundw
            case rel => exact ⟨i + 1, by omega, by go_num, HS⟩
            case measure => simp [intOf]; omega
          · obtain rfl : i = m := by omega
            have hS := hput wr HB
            have hcl' : wr.cell? ⟨w.heap.size, k, none⟩ = some (.slice none 0 0) := by rw [HB.bel.cell (p := ⟨w.heap.size, k, none⟩) hwlt]; exact hcl
            have hfz' : wr.frozen? ⟨w.heap.size, k, none⟩ = false := by rw [HB.bel.frozen (p := ⟨w.heap.size, k, none⟩) hwlt]; exact hfz
            clear hrow HB H0 hput hcl hfz
            go_wp2
            go_roundw
            case rel => exact ⟨k + 1, by omega, by go_num, hS⟩
            case measure => simp [intOf]; omega
    · obtain rfl : k = n := by omega
      go_wp2
      go_ret
      exact ⟨rfl, HC⟩

/-- The copy of the record, as it lies. -/
structure Rec (w w' : World) (a a' : Option Addr) (n : Nat) (F G : Nat → Fd) : Prop where
  row : RRow w' a' n G
  zs : ∀ j, j < n → (G j).zs = (F j).zs
  ad : ∀ j, j < n → (G j).a = none ∨ ∃ b, (G j).a = some ⟨b, 0, none⟩ ∧ b < w'.heap.size
  bel : Below w.heap.size w w'

theorem cloneR (a : Option Addr) (n c : Nat) (F : Nat → Fd) (w : World) (hn : n ≤ 65536) (hnil : a = none → n = 0 ∧ c = 0) (h : RRow w a n F) (hF2 : ∀ j, j < n → (F j).n ≤ 1048576) :
    Calls Try.prog 19 #[.slice a n c] w fun e w' => ∃ a' G, e = .returned (.slice a' n n) ∧ Rec w w' a a' n F G := by
  match a, hnil, h with
  | none, hnil, h =>
    obtain ⟨rfl, rfl⟩ := hnil rfl
    have q35 : ∀ (w : World) (a : Option Addr) (n c n' c' : Nat), (binOp .eql 35 (.slice a n c) (.slice none n' c')).run Try.prog w = .ok (.bool a.isNone) w := fun w a n c n' c' => Lib.run_eql_slice_nil w _ _ a n c n' c' Try.underlying35
    go_enter Try.func19, Try.ntmps19
    go_wp2
    go_ret
    exact ⟨none, rfl, F, h, fun j hj => rfl, fun j hj => by omega, Below.refl _ _⟩
  | some x, hnil, h =>
    refine (cloneR_some x n c F w hn h.fld hF2 ?_).mono ?_
    · intro j hj
      rcases h.row with rfl | ⟨b, off, e, hc⟩
      · omega
      · obtain rfl := Option.some.inj e
        exact ⟨rfl, hc j hj⟩
    · rintro e w' ⟨rfl, HC⟩
      obtain ⟨G, xs, ho, hx, _, hg, hb, hs⟩ := HC
      refine ⟨_, G, rfl, ⟨h.max, .inr ⟨_, 0, rfl, fun j hj => ?_⟩, fun j hj => (hg j hj).inn⟩, fun j hj => (hg j hj).zs, fun j hj => ?_, hb⟩
      · rw [Nat.zero_add, ho.cellAt j (by omega)]
        exact hx j hj
      · rcases (hg j hj).ad with h | ⟨b, e, _, l⟩
        · exact .inl h
        · exact .inr ⟨b, e, l⟩
end Go.Proofs.Qxb6603151a
