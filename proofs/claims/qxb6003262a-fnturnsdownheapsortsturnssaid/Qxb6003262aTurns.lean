/-
  Rows of turns in memory; the walk of zzCopyTurns.
-/
import Derived.Test.Qxb6003262aProg
import Derived.Test.Qxb6003262aHeapPlain
import Derived.WalkKit
import Derived.WalkSpells
import Derived.Laws.Rows
namespace Go.Proofs.Qxb6003262a
set_option linter.unusedVariables false
open Go.RowKit

/-- The four cells of a turn. -/
def tcells (t : Tn) : List Value := [.int .i64 t.s, .int .i32 t.n, .int .i64 t.r, .int .i64 t.u]

theorem flat_len (q : List Tn) : (q.flatMap tcells).length = 4 * q.length := by
  induction q with
  | nil => rfl
  | cons t q ih => rw [List.flatMap_cons, List.length_append, ih]; simp [tcells]; omega

theorem flat_get : ∀ (q : List Tn) (j i : Nat), j < q.length → i < 4 → (q.flatMap tcells)[j * 4 + i]? = (tcells (gt q j))[i]?
  | [], j, i => fun h _ => by simp at h
  | t :: q, 0, i => fun h hi => by
    rw [List.flatMap_cons, Nat.zero_mul, Nat.zero_add, List.getElem?_append_left (by simp [tcells]; omega)]; rfl
  | t :: q, j + 1, i => fun h hi => by
    rw [List.flatMap_cons, List.getElem?_append_right (by simp [tcells]; omega)]
    have e : (j + 1) * 4 + i - (tcells t).length = j * 4 + i := by simp [tcells]; omega
    rw [e, flat_get q j i (by simpa using h) hi]; rfl

theorem flat_set : ∀ (q : List Tn) (j : Nat) (t : Tn), j < q.length →
    (((((q.flatMap tcells).set (j * 4) (.int .i64 t.s)).set (j * 4 + 1) (.int .i32 t.n)).set (j * 4 + 2) (.int .i64 t.r)).set (j * 4 + 3) (.int .i64 t.u)) = (q.set j t).flatMap tcells
  | [], j, t => fun h => by simp at h
  | x :: q, 0, t => fun h => by simp [tcells]
  | x :: q, j + 1, t => fun h => by
    have e : (j + 1) * 4 = j * 4 + 4 := by omega
    have ih := flat_set q j t (by simpa using h)
    rw [e]
    simp only [List.set_cons_succ, List.flatMap_cons]
    rw [← ih]
    simp [tcells, show j * 4 + 4 + 1 = j * 4 + 1 + 4 by omega, show j * 4 + 4 + 2 = j * 4 + 2 + 4 by omega, show j * 4 + 4 + 3 = j * 4 + 3 + 4 by omega]

/-- A block that holds just these turns. -/
def OwnT (w : World) (g : Nat) (ty : TypeId) (q : List Tn) : Prop := w.heap[g]? = some (.cells (q.flatMap tcells).toArray ty)
/-- Turns that lie in a row. -/
def TRow (w : World) (b off : Nat) (q : List Tn) : Prop :=
  ∀ j, j < q.length → w.cell? ⟨b, off + j * 4, none⟩ = some (.int .i64 (gt q j).s) ∧ w.cell? ⟨b, off + j * 4 + 1, none⟩ = some (.int .i32 (gt q j).n) ∧ w.cell? ⟨b, off + j * 4 + 2, none⟩ = some (.int .i64 (gt q j).r) ∧ w.cell? ⟨b, off + j * 4 + 3, none⟩ = some (.int .i64 (gt q j).u)

theorem OwnT.at {w : World} {g : Nat} {ty : TypeId} {q : List Tn} (h : OwnT w g ty q) (j : Nat) (hj : j < q.length) :
    w.cell? ⟨g, j * 4, none⟩ = some (.int .i64 (gt q j).s) ∧ w.cell? ⟨g, j * 4 + 1, none⟩ = some (.int .i32 (gt q j).n) ∧ w.cell? ⟨g, j * 4 + 2, none⟩ = some (.int .i64 (gt q j).r) ∧ w.cell? ⟨g, j * 4 + 3, none⟩ = some (.int .i64 (gt q j).u) := by
  have hc := fun i (hi : i < 4) => (cell_of_row w g (j * 4 + i) _ ty (0, 0) h).trans ((by simp : (q.flatMap tcells).toArray[j * 4 + i]? = (q.flatMap tcells)[j * 4 + i]?).trans (flat_get q j i hj hi))
  exact ⟨hc 0 (by omega), hc 1 (by omega), hc 2 (by omega), hc 3 (by omega)⟩
theorem OwnT.row {w : World} {g : Nat} {ty : TypeId} {q : List Tn} (h : OwnT w g ty q) : TRow w g 0 q := by
  intro j hj
  rw [Nat.zero_add]
  exact h.at j hj
theorem OwnT.frozen {w : World} {g : Nat} {ty : TypeId} {q : List Tn} (h : OwnT w g ty q) (j : Nat) : w.frozen? ⟨g, j, none⟩ = false := frozen_of_row w g j _ ty h
theorem OwnT.lt {w : World} {g : Nat} {ty : TypeId} {q : List Tn} (h : OwnT w g ty q) : g < w.heap.size := by
  rcases Nat.lt_or_ge g w.heap.size with h' | h'
  · exact h'
  · rw [OwnT, Array.getElem?_eq_none h'] at h; cases h
theorem OwnT.store {w : World} {g : Nat} {ty : TypeId} {q : List Tn} (h : OwnT w g ty q) (j : Nat) (t : Tn) (hj : j < q.length) :
    OwnT ((((w.setCell ⟨g, j * 4, none⟩ (.int .i64 t.s)).setCell ⟨g, j * 4 + 1, none⟩ (.int .i32 t.n)).setCell ⟨g, j * 4 + 2, none⟩ (.int .i64 t.r)).setCell ⟨g, j * 4 + 3, none⟩ (.int .i64 t.u)) g ty (q.set j t) := by
  have h1 := heap_setCell_same w g (j * 4) _ ty (.int .i64 t.s) h
  have h2 := heap_setCell_same _ g (j * 4 + 1) _ ty (.int .i32 t.n) h1
  have h3 := heap_setCell_same _ g (j * 4 + 2) _ ty (.int .i64 t.r) h2
  have h4 := heap_setCell_same _ g (j * 4 + 3) _ ty (.int .i64 t.u) h3
  unfold OwnT
  rw [h4, ← flat_set q j t hj]
  simp
theorem TRow.below {w wr : World} {b off B : Nat} {q : List Tn} (h : TRow w b off q) (hB : Below B w wr) (hb : b < B ∨ q = []) : TRow wr b off q := by
  intro j hj
  rcases hb with hb | hb
  · have := h j hj
    exact ⟨(hB.cell (p := ⟨b, off + j * 4, none⟩) hb).trans this.1, (hB.cell (p := ⟨b, off + j * 4 + 1, none⟩) hb).trans this.2.1, (hB.cell (p := ⟨b, off + j * 4 + 2, none⟩) hb).trans this.2.2.1, (hB.cell (p := ⟨b, off + j * 4 + 3, none⟩) hb).trans this.2.2.2⟩
  · subst hb; simp at hj
theorem TRow.lt {w : World} {b off : Nat} {q : List Tn} (h : TRow w b off q) : b < w.heap.size ∨ q = [] := by
  by_cases hq : q = []
  · exact .inr hq
  · exact .inl (World.block_lt_of_cell? _ _ (h 0 (List.length_pos_iff.2 hq)).1)
theorem TRow.below' {w wr : World} {b off : Nat} {q : List Tn} (h : TRow w b off q) (hB : Below w.heap.size w wr) : TRow wr b off q := h.below hB h.lt

/-- The zero turns that 'make' lays. -/
theorem flat_zero (n : Nat) : (madeCells #[.int .i64 0, .int .i32 0, .int .i64 0, .int .i64 0] (n * 4)).toList = (List.replicate n t0).flatMap tcells := by
  apply List.ext_getElem?
  intro k
  by_cases hk : k < n * 4
  · have h1 : k = k / 4 * 4 + k % 4 := by omega
    have hg : gt (List.replicate n t0) (k / 4) = t0 := by unfold gt; rw [List.getElem?_replicate, if_pos (by omega)]; rfl
    have h2 : ((List.replicate n t0).flatMap tcells)[k]? = (tcells t0)[k % 4]? := by
      have := flat_get (List.replicate n t0) (k / 4) (k % 4) (by rw [List.length_replicate]; omega) (by omega)
      rw [← h1, hg] at this
      exact this
    rw [h2]
    unfold madeCells
    simp [hk]
    have hm : k % 4 = 0 ∨ k % 4 = 1 ∨ k % 4 = 2 ∨ k % 4 = 3 := by omega
    rcases hm with h | h | h | h <;> rw [h] <;> rfl
  · rw [List.getElem?_eq_none (by simp [size_madeCells]; omega), List.getElem?_eq_none (by rw [flat_len, List.length_replicate]; omega)]
/-- A made row, whole. -/
theorem ownT_made {w : World} {base g n : Nat} {ty : TypeId} (h : w.ownsRow base ty 4 (.slice (some ⟨g, 0, none⟩) n n) n (madeCells #[.int .i64 0, .int .i32 0, .int .i64 0, .int .i64 0] (n * 4)).toList) : OwnT w g ty (List.replicate n t0) := by
  rcases h.2 with ⟨h', _⟩ | ⟨g', cap', cur, h', _, hg, _, _, hs, ht⟩
  · simp at h'
  · simp only [Value.slice.injEq, Option.some.injEq, Addr.mk.injEq, and_true, true_and] at h'
    obtain ⟨rfl, rfl⟩ := h'
    rw [List.take_of_length_le (by simp [hs]), flat_zero] at ht
    unfold OwnT
    rw [hg, ← ht]

theorem Try.info45 : (Try.prog.info? 45).map (fun i => (i.zero, i.size, i.bytes)) = some (some (.agg #[.int .i64 0, .int .i32 0, .int .i64 0, .int .i64 0]), 4, 32) := by kernel_rfl

set_option maxHeartbeats 400000 in
theorem copyT_some (b off : Nat) (n c : Nat) (q : List Tn) (w : World) (hn : n ≤ 1099511627776) (hq : q.length = n) (hc : TRow w b off q) :
    Calls Try.prog 21 #[.slice (some ⟨b, off, none⟩) n c] w fun e w' => e = .returned (.slice (some ⟨w.heap.size, 0, none⟩) n n) ∧ OwnT w' w.heap.size 45 q ∧ Below w.heap.size w w' := by
  have q38 : ∀ (w : World) (a : Option Addr) (n c n' c' : Nat), (binOp .eql 38 (.slice a n c) (.slice none n' c')).run Try.prog w = .ok (.bool a.isNone) w := fun w a n c n' c' => Lib.run_eql_slice_nil w _ _ a n c n' c' Try.underlying38
  obtain ⟨i0, hi, hz0, hz1, hz2⟩ := info_parts Try.info45
  go_enter Try.func21, Try.ntmps21
  go_wp2_with (at_make; refine wpList_make_full _ rfl (.tmp 8) (.tmp 8) 38 rfl w.heap.size 45 i0 _ 4 Try.underlying38 hi hz0 hz1 .i64 .i64 n n n rfl rfl rfl rfl (by rw [hz2]; omega) (by unfold maxLen; omega) (Nat.le_refl _) ?_; intro w1 hown hgrow)
  have H0 : OwnT w1 w.heap.size 45 (List.replicate n t0) := ownT_made hown
  have hB0 : Below w.heap.size w w1 := (Below.refl _ _).grown hgrow (Nat.le_refl _) (fun k hk => by cases hk)
  clear hown hgrow
  go_loopw [4] (fun x wr => ∃ k : Nat, k ≤ n ∧ x = .int .i64 (k : Int) ∧ OwnT wr w.heap.size 45 (q.take k ++ List.replicate (n - k) t0) ∧ Below w.heap.size w wr) (fun x _ => n - (intOf x).toNat)
  case atStart => exact ⟨0, by omega, rfl, by simpa using H0, hB0⟩
  case round =>
    obtain ⟨k, hk, rfl, HC, hB⟩ := hrel
    by_cases hlt : k < n
    · obtain ⟨f0, f1, f2, f3⟩ := (hc.below' hB) k (by omega)
      have hlen : (q.take k ++ List.replicate (n - k) t0).length = n := by simp; omega
      obtain ⟨e0, e1, e2, e3⟩ := HC.at k (by omega)
      have hf := HC.frozen
      have HS := HC.store k (gt q k) (by omega)
      have hset : (q.take k ++ List.replicate (n - k) t0).set k (gt q k) = q.take (k + 1) ++ List.replicate (n - (k + 1)) t0 := by
        rw [List.set_append_right _ _ (by simp; omega), show k - (q.take k).length = 0 by simp; omega, show n - k = n - (k + 1) + 1 by omega, List.replicate_succ, List.set_cons_zero, List.take_add_one, List.append_assoc]
        congr 1
        unfold gt
        rw [List.getElem?_eq_getElem (by omega)]; rfl
      rw [hset] at HS
      have hBS := (((hB.setCell (p := ⟨w.heap.size, k * 4, none⟩) (Nat.le_refl _) (.int .i64 (gt q k).s)).setCell (p := ⟨w.heap.size, k * 4 + 1, none⟩) (Nat.le_refl _) (.int .i32 (gt q k).n)).setCell (p := ⟨w.heap.size, k * 4 + 2, none⟩) (Nat.le_refl _) (.int .i64 (gt q k).r)).setCell (p := ⟨w.heap.size, k * 4 + 3, none⟩) (Nat.le_refl _) (.int .i64 (gt q k).u)
      clear H0 hB0 HC hc hset hlen
      go_wp2
      go_roundw
      case rel => exact ⟨k + 1, by omega, by go_num, HS, hBS⟩
      case measure => simp [intOf]; omega
    · obtain rfl : k = n := by omega
      go_wp2
      go_ret
      exact ⟨rfl, by rw [Nat.sub_self, List.take_of_length_le (by omega)] at HC; simpa using HC, hB⟩

set_option maxHeartbeats 400000 in
theorem copyT_zero (x : Addr) (c : Nat) (w : World) :
    Calls Try.prog 21 #[.slice (some x) 0 c] w fun e w' => e = .returned (.slice (some ⟨w.heap.size, 0, none⟩) 0 0) ∧ Below w.heap.size w w' := by
  have q38 : ∀ (w : World) (a : Option Addr) (n c n' c' : Nat), (binOp .eql 38 (.slice a n c) (.slice none n' c')).run Try.prog w = .ok (.bool a.isNone) w := fun w a n c n' c' => Lib.run_eql_slice_nil w _ _ a n c n' c' Try.underlying38
  obtain ⟨i0, hi, hz0, hz1, hz2⟩ := info_parts Try.info45
  go_enter Try.func21, Try.ntmps21
  go_wp2_with (at_make; refine wpList_make_full _ rfl (.tmp 8) (.tmp 8) 38 rfl w.heap.size 45 i0 _ 4 Try.underlying38 hi hz0 hz1 .i64 .i64 0 0 0 rfl rfl rfl rfl (by rw [hz2]; omega) (by unfold maxLen; omega) (Nat.le_refl _) ?_; intro w1 hown hgrow)
  have hB0 : Below w.heap.size w w1 := (Below.refl _ _).grown hgrow (Nat.le_refl _) (fun k hk => by cases hk)
  refine wp_loop_rounds 1 ?_
  rw [rounds_succ]
  go_wp2
  go_ret
  exact ⟨rfl, hB0⟩

/-- A slice of turns. -/
def TIn (w : World) (a : Option Addr) (n : Nat) (q : List Tn) : Prop :=
  q.length = n ∧ n ≤ 1048576 ∧ (a = none → n = 0) ∧ (n = 0 ∨ ∃ b off, a = some ⟨b, off, none⟩ ∧ TRow w b off q)

theorem TIn.below {w wr : World} {a : Option Addr} {n : Nat} {q : List Tn} (h : TIn w a n q) (hB : Below w.heap.size w wr) : TIn wr a n q := by
  obtain ⟨h1, h2, h3, h4 | ⟨b, off, e, h4⟩⟩ := h
  · exact ⟨h1, h2, h3, .inl h4⟩
  · exact ⟨h1, h2, h3, .inr ⟨b, off, e, h4.below' hB⟩⟩
theorem OwnT.tin {w : World} {g : Nat} {ty : TypeId} {q : List Tn} (h : OwnT w g ty q) (hn : q.length ≤ 1048576) : TIn w (some ⟨g, 0, none⟩) q.length q :=
  ⟨rfl, hn, (fun h => by cases h), .inr ⟨g, 0, rfl, h.row⟩⟩

theorem copyT (a : Option Addr) (n c : Nat) (q : List Tn) (w : World) (h : TIn w a n q) :
    Calls Try.prog 21 #[.slice a n c] w fun e w' => ∃ a', e = .returned (.slice a' n n) ∧ TIn w' a' n q ∧ Below w.heap.size w w' := by
  obtain ⟨h1, h2, h3, h4⟩ := h
  match a, h3, h4 with
  | none, h3, _ =>
    obtain rfl := h3 rfl
    have q38 : ∀ (w : World) (a : Option Addr) (n c n' c' : Nat), (binOp .eql 38 (.slice a n c) (.slice none n' c')).run Try.prog w = .ok (.bool a.isNone) w := fun w a n c n' c' => Lib.run_eql_slice_nil w _ _ a n c n' c' Try.underlying38
    have H1 : Hid (q.length = 0) := h1
    clear h1
    go_enter Try.func21, Try.ntmps21
    go_wp2
    go_ret
    exact ⟨none, rfl, ⟨H1.out, by omega, (fun _ => rfl), .inl rfl⟩, Below.refl _ _⟩
  | some x, h3, .inl h4 =>
    subst h4
    refine (copyT_zero x c w).mono ?_
    rintro e w' ⟨rfl, hb⟩
    exact ⟨_, rfl, ⟨h1, h2, (fun h => by cases h), .inl rfl⟩, hb⟩
  | some x, h3, .inr ⟨b, off, e, h4⟩ =>
    obtain rfl := Option.some.inj e
    refine (copyT_some b off n c q w (by omega) h1 h4).mono ?_
    rintro e w' ⟨rfl, ho, hb⟩
    exact ⟨_, rfl, ⟨h1, h2, (fun h => by cases h), .inr ⟨_, 0, rfl, ho.row⟩⟩, hb⟩

/-- A turn as a value. -/
def aggT (t : Tn) : Value := .agg #[.int .i64 t.s, .int .i32 t.n, .int .i64 t.r, .int .i64 t.u]

theorem ret_bool {a b : Bool} (h : a = b) : Ending.returned (.bool a) = .returned (.bool b) := by rw [h]

set_option maxHeartbeats 400000 in
theorem zbefore (a b : Tn) (w : World) :
    Calls Try.prog 32 #[.agg #[.int .i64 a.s, .int .i32 a.n, .int .i64 a.r, .int .i64 a.u], .agg #[.int .i64 b.s, .int .i32 b.n, .int .i64 b.r, .int .i64 b.u]] w fun e w' => e = .returned (.bool (bef a b)) ∧ Below w.heap.size w w' := by
  have hB : Below w.heap.size w ((w.alloc (.cells #[.int .i64 a.s, .int .i32 a.n, .int .i64 a.r, .int .i64 a.u] 45)).alloc (.cells #[.int .i64 b.s, .int .i32 b.n, .int .i64 b.r, .int .i64 b.u] 45)) := ((Below.refl _ _).alloc (Nat.le_refl _) _).alloc (by simp) _
  by_cases h1 : a.s = b.s
  · have k1 : (a.s != b.s) = false := by simp [h1]
    have H1 : Hid (a.s = b.s) := h1
    clear h1
    by_cases h2 : a.n = b.n
    · have k2 : (a.n != b.n) = false := by simp [h2]
      have H2 : Hid (a.n = b.n) := h2
      clear h2
      by_cases h3 : a.r = b.r
      · have k3 : (a.r != b.r) = false := by simp [h3]
        have H3 : Hid (a.r = b.r) := h3
        clear h3
        go_enter Try.func32, Try.ntmps32
        go_wp2
        go_ret
        exact ⟨ret_bool (by unfold bef; rw [if_pos H1.out, if_pos H2.out, if_pos H3.out]), hB⟩
      · have k3 : (a.r != b.r) = true := by simpa using h3
        have H3 : Hid (¬ a.r = b.r) := h3
        clear h3
        go_enter Try.func32, Try.ntmps32
        go_wp2
        go_ret
        exact ⟨ret_bool (by unfold bef; rw [if_pos H1.out, if_pos H2.out, if_neg H3.out]), hB⟩
    · have k2 : (a.n != b.n) = true := by simpa using h2
      have H2 : Hid (¬ a.n = b.n) := h2
      clear h2
      go_enter Try.func32, Try.ntmps32
      go_wp2
      go_ret
      exact ⟨ret_bool (by unfold bef; rw [if_pos H1.out, if_neg H2.out]), hB⟩
  · have k1 : (a.s != b.s) = true := by simpa using h1
    have H1 : Hid (¬ a.s = b.s) := h1
    clear h1
    go_enter Try.func32, Try.ntmps32
    go_wp2
    go_ret
    exact ⟨ret_bool (by unfold bef; rw [if_neg H1.out]), hB⟩
end Go.Proofs.Qxb6003262a
