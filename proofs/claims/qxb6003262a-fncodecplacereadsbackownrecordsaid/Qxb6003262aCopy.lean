/-
  The walk of zzCopyBytes: a fresh copy.
-/
import Derived.Test.Qxb6003262aVarWalks
import Derived.Laws.Rows
namespace Go.Proofs.Qxb6003262a
set_option linter.unusedVariables false
open Go.RowKit

theorem Try.info5 : (Try.prog.info? 5).map (fun i => (i.zero, i.size, i.bytes)) = some (some (.int .u8 0), 1, 1) := by kernel_rfl

/-- What the loop has copied so far. -/
def Copied (w wr : World) (n k : Nat) (zs : List Int) : Prop :=
  ∃ xs : List Value, wr.ownsRow w.heap.size 5 1 (.slice (some ⟨w.heap.size, 0, none⟩) n n) n xs ∧ xs.length = n ∧ (∀ j, j < k → xs[j]? = some (.int .u8 (zs[j]?.getD 0))) ∧ Below w.heap.size w wr ∧ w.heap.size < wr.heap.size

theorem Copied.cell {w wr : World} {n k : Nat} {zs : List Int} (h : Copied w wr n k zs) (hk : k < n) :
    ∃ v, wr.cell? ⟨w.heap.size, k, none⟩ = some v := by
  obtain ⟨xs, ho, hl, _⟩ := h
  rw [ho.cellAt k (by omega)]
  exact ⟨xs[k]'(by omega), by simp [hl, hk]⟩
theorem Copied.frozen {w wr : World} {n k : Nat} {zs : List Int} (h : Copied w wr n k zs) (j : Nat) : wr.frozen? ⟨w.heap.size, j, none⟩ = false := by
  obtain ⟨xs, ho, _⟩ := h
  exact ho.frozenAt j
theorem Copied.step {w wr : World} {n k : Nat} {zs : List Int} (h : Copied w wr n k zs) (hk : k < n) :
    Copied w (wr.setCell ⟨w.heap.size, k, none⟩ (.int .u8 (zs[k]?.getD 0))) n (k + 1) zs := by
  obtain ⟨xs, ho, hl, hx, hb, hs⟩ := h
  have hst := ho.stored k (.int .u8 (zs[k]?.getD 0))
  refine ⟨_, hst.1, by simpa using hl, fun j hj => ?_, hb.setCell (Nat.le_refl _) _, by simpa using hs⟩
  by_cases e : j = k
  · subst e; rw [List.getElem?_set_self (by omega)]
  · rw [List.getElem?_set_ne (by omega)]; exact hx j (by omega)
theorem Copied.row {w wr : World} {n : Nat} {zs : List Int} (h : Copied w wr n n zs) : ∀ j, j < n → wr.cell? ⟨w.heap.size, 0 + j, none⟩ = some (.int .u8 (zs[j]?.getD 0)) := by
  obtain ⟨xs, ho, hl, hx, hb, hs⟩ := h
  intro j hj
  rw [Nat.zero_add, ho.cellAt j (by omega)]
  exact hx j hj

set_option maxHeartbeats 400000 in
theorem copy_some (x : Addr) (n c : Nat) (zs : List Int) (w : World) (hn : n ≤ 1099511627776)
    (hc : ∀ j, j < n → x.spot = none ∧ w.cell? ⟨x.block, x.off + j, none⟩ = some (.int .u8 (zs[j]?.getD 0))) :
    Calls Try.prog 10 #[.slice (some x) n c] w fun e w' => e = .returned (.slice (some ⟨w.heap.size, 0, none⟩) n n) ∧ Copied w w' n n zs := by
  have q22 : ∀ (w : World) (a : Option Addr) (n c n' c' : Nat), (binOp .eql 22 (.slice a n c) (.slice none n' c')).run Try.prog w = .ok (.bool a.isNone) w := fun w a n c n' c' => Lib.run_eql_slice_nil w _ _ a n c n' c' Try.underlying22
  obtain ⟨i0, hi, hz0, hz1, hz2⟩ := info_parts Try.info5
  go_enter Try.func10, Try.ntmps10
  go_wp2_with (at_make; refine wpList_make_full _ rfl (.tmp 8) (.tmp 8) 22 rfl w.heap.size 5 i0 (.int .u8 0) 1 Try.underlying22 hi hz0 hz1 .i64 .i64 n n n rfl rfl rfl rfl (by rw [hz2]; omega) (by unfold maxLen; omega) (Nat.le_refl _) ?_; intro w1 hown hgrow)
  have H0 : Copied w w1 n 0 zs := ⟨_, hown, by simp [madeCells], fun j hj => by omega, (Below.refl _ _).grown hgrow (Nat.le_refl _) (fun k hk => by cases hk), (hown.lt _ rfl).2⟩
  clear hown hgrow
  go_loopw [4] (fun q wr => ∃ k : Nat, k ≤ n ∧ q = .int .i64 (k : Int) ∧ Copied w wr n k zs) (fun q _ => n - (intOf q).toNat)
  case atStart => exact ⟨0, by omega, rfl, H0⟩
  case round =>
    obtain ⟨k, hk, rfl, HC⟩ := hrel
    by_cases hlt : k < n
    · obtain ⟨b, off, sp⟩ := x
      have hsp : sp = none := (hc k hlt).1
      subst hsp
      have hcell : wr.cell? ⟨b, off + k, none⟩ = some (.int .u8 (zs[k]?.getD 0)) := by
        have h := (hc k hlt).2
        obtain ⟨xs, ho, hl, hx, hb, hs⟩ := HC
        rw [hb.cell (World.block_lt_of_cell? _ _ h)]; exact h
      obtain ⟨v, hv⟩ := HC.cell hlt
      have hf := HC.frozen k
      have HS := HC.step hlt
      clear hc HC H0
      go_wp2
      go_roundw
      case rel => exact ⟨k + 1, by omega, by go_num, HS⟩
      case measure => simp [intOf]; omega
    · obtain rfl : k = n := by omega
      go_wp2
      go_ret
      exact ⟨rfl, HC⟩

/-- The copy, of whatever slice of bytes. -/
theorem copy_row (a : Option Addr) (n c : Nat) (zs : List Int) (w : World) (hnil : a = none → n = 0) (hrow : Row8 w a n zs) :
    Calls Try.prog 10 #[.slice a n c] w fun e w' => ∃ a', e = .returned (.slice a' n n) ∧ Row8 w' a' n zs ∧ Below w.heap.size w w' := by
  obtain ⟨hn, hr, hh⟩ := hrow
  match a, hnil, hh with
  | none, hnil, hh =>
    obtain rfl := hnil rfl
    have q22 : ∀ (w : World) (a : Option Addr) (n c n' c' : Nat), (binOp .eql 22 (.slice a n c) (.slice none n' c')).run Try.prog w = .ok (.bool a.isNone) w := fun w a n c n' c' => Lib.run_eql_slice_nil w _ _ a n c n' c' Try.underlying22
    go_enter Try.func10, Try.ntmps10
    go_wp2
    go_ret
    exact ⟨none, rfl, ⟨hn, hr, .inl rfl⟩, Below.refl _ _⟩
  | some x, hnil, hh =>
    refine (copy_some x n c zs w hn ?_).mono ?_
    · intro j hj
      rcases hh with rfl | ⟨b, off, h, hc⟩
      · omega
      · obtain rfl := Option.some.inj h
        exact ⟨rfl, hc j hj⟩
    · rintro e w' ⟨rfl, HC⟩
      have hb : Below w.heap.size w w' := by obtain ⟨xs, ho, hl, hx, hb, hs⟩ := HC; exact hb
      exact ⟨_, rfl, ⟨hn, hr, .inr ⟨_, 0, rfl, HC.row⟩⟩, hb⟩
end Go.Proofs.Qxb6003262a
