/-
  Slices of strings: as they lie, and the walk of zzCloneStrings.
-/
import Derived.Test.Qxb6603151aProg
import Derived.WalkKit
import Derived.WalkSpells
import Derived.Laws.Rows
namespace Go.Proofs.Qxb6603151a
set_option linter.unusedVariables false
open Go.RowKit

/-- The strings of a slice, as they lie. -/
def SRow (w : World) (a : Option Addr) (n : Nat) (S : Nat → ByteArray) : Prop :=
  n ≤ 9223372036854775807 ∧ (∀ j : Nat, (S j).size ≤ 9223372036854775807) ∧
  (n = 0 ∨ ∃ b off, a = some ⟨b, off, none⟩ ∧ ∀ j, j < n → w.cell? ⟨b, off + j, none⟩ = some (.string (S j)))

theorem Try.info9 : (Try.prog.info? 9).map (fun i => (i.zero, i.size, i.bytes)) = some (some (.string ⟨#[]⟩), 1, 16) := by kernel_rfl

/-- What the loop has copied so far. -/
def Copied (w wr : World) (n k : Nat) (S : Nat → ByteArray) : Prop :=
  ∃ xs : List Value, wr.ownsRow w.heap.size 9 1 (.slice (some ⟨w.heap.size, 0, none⟩) n n) n xs ∧ xs.length = n ∧ (∀ j, j < k → xs[j]? = some (.string (S j))) ∧ Below w.heap.size w wr ∧ w.heap.size < wr.heap.size

theorem Copied.cell {w wr : World} {n k : Nat} {S : Nat → ByteArray} (h : Copied w wr n k S) (hk : k < n) :
    ∃ v, wr.cell? ⟨w.heap.size, k, none⟩ = some v := by
  obtain ⟨xs, ho, hl, _⟩ := h
  rw [ho.cellAt k (by omega)]
  exact ⟨xs[k]'(by omega), by simp [hl, hk]⟩
theorem Copied.frozen {w wr : World} {n k : Nat} {S : Nat → ByteArray} (h : Copied w wr n k S) (j : Nat) : wr.frozen? ⟨w.heap.size, j, none⟩ = false := by
  obtain ⟨xs, ho, _⟩ := h
  exact ho.frozenAt j
theorem Copied.step {w wr : World} {n k : Nat} {S : Nat → ByteArray} (h : Copied w wr n k S) (hk : k < n) :
    Copied w (wr.setCell ⟨w.heap.size, k, none⟩ (.string (S k))) n (k + 1) S := by
  obtain ⟨xs, ho, hl, hx, hb, hs⟩ := h
  have hst := ho.stored k (.string (S k))
  refine ⟨_, hst.1, by simpa using hl, fun j hj => ?_, hb.setCell (Nat.le_refl _) _, by simpa using hs⟩
  by_cases e : j = k
  · subst e; rw [List.getElem?_set_self (by omega)]
  · rw [List.getElem?_set_ne (by omega)]; exact hx j (by omega)
theorem Copied.row {w wr : World} {n : Nat} {S : Nat → ByteArray} (h : Copied w wr n n S) : ∀ j, j < n → wr.cell? ⟨w.heap.size, 0 + j, none⟩ = some (.string (S j)) := by
  obtain ⟨xs, ho, hl, hx, hb, hs⟩ := h
  intro j hj
  rw [Nat.zero_add, ho.cellAt j (by omega)]
  exact hx j hj

set_option maxHeartbeats 400000 in
theorem clone_some (x : Addr) (n c : Nat) (S : Nat → ByteArray) (w : World) (hn : n ≤ 65536)
    (hc : ∀ j, j < n → x.spot = none ∧ w.cell? ⟨x.block, x.off + j, none⟩ = some (.string (S j))) :
    Calls Try.prog 10 #[.slice (some x) n c] w fun e w' => e = .returned (.slice (some ⟨w.heap.size, 0, none⟩) n n) ∧ Copied w w' n n S := by
  have q22 : ∀ (w : World) (a : Option Addr) (n c n' c' : Nat), (binOp .eql 22 (.slice a n c) (.slice none n' c')).run Try.prog w = .ok (.bool a.isNone) w := fun w a n c n' c' => Lib.run_eql_slice_nil w _ _ a n c n' c' Try.underlying22
  obtain ⟨i0, hi, hz0, hz1, hz2⟩ := info_parts Try.info9
  go_enter Try.func10, Try.ntmps10
  go_wp2_with (at_make; refine wpList_make_full _ rfl (.tmp 8) (.tmp 8) 22 rfl w.heap.size 9 i0 (.string ⟨#[]⟩) 1 Try.underlying22 hi hz0 hz1 .i64 .i64 n n n rfl rfl rfl rfl (by rw [hz2]; omega) (by unfold maxLen; omega) (Nat.le_refl _) ?_; intro w1 hown hgrow)
  have H0 : Copied w w1 n 0 S := ⟨_, hown, by simp [madeCells], fun j hj => by omega, (Below.refl _ _).grown hgrow (Nat.le_refl _) (fun k hk => by cases hk), (hown.lt _ rfl).2⟩
  clear hown hgrow
  go_loopw [4] (fun q wr => ∃ k : Nat, k ≤ n ∧ q = .int .i64 (k : Int) ∧ Copied w wr n k S) (fun q _ => n - (intOf q).toNat)
  case atStart => exact ⟨0, by omega, rfl, H0⟩
  case round =>
    obtain ⟨k, hk, rfl, HC⟩ := hrel
    by_cases hlt : k < n
    · obtain ⟨b, off, sp⟩ := x
      have hsp : sp = none := (hc k hlt).1
      subst hsp
      have hcell : wr.cell? ⟨b, off + k, none⟩ = some (.string (S k)) := by
        have h := (hc k hlt).2
        obtain ⟨xs, ho, hl, hx, hb, hs⟩ := HC
        rw [hb.cell (World.block_lt_of_cell? _ _ h)]; exact h
      obtain ⟨v, hv⟩ := HC.cell hlt
      have hf := HC.frozen k
      have HS := HC.step hlt
      clear hc HC H0
      go_wp2
      go_roundw
      case rel => exact ⟨k + 1, by omega, by go_num, HS⟩
      case measure => simp [intOf]; omega
    · obtain rfl : k = n := by omega
      go_wp2
      go_ret
      exact ⟨rfl, HC⟩

/-- The copy, of whatever slice of strings. -/
theorem clone_row (a : Option Addr) (n c : Nat) (S : Nat → ByteArray) (w : World) (hn : n ≤ 65536) (hnil : a = none → n = 0 ∧ c = 0) (hrow : SRow w a n S) :
    Calls Try.prog 10 #[.slice a n c] w fun e w' => ∃ a', e = .returned (.slice a' n n) ∧ SRow w' a' n S ∧ (a'.isNone = a.isNone) ∧ Below w.heap.size w w' := by
  obtain ⟨hm, hS, hh⟩ := hrow
  match a, hnil, hh with
  | none, hnil, hh =>
    obtain ⟨rfl, rfl⟩ := hnil rfl
    have q22 : ∀ (w : World) (a : Option Addr) (n c n' c' : Nat), (binOp .eql 22 (.slice a n c) (.slice none n' c')).run Try.prog w = .ok (.bool a.isNone) w := fun w a n c n' c' => Lib.run_eql_slice_nil w _ _ a n c n' c' Try.underlying22
    go_enter Try.func10, Try.ntmps10
    go_wp2
    go_ret
    exact ⟨none, rfl, ⟨hm, hS, .inl rfl⟩, rfl, Below.refl _ _⟩
  | some x, hnil, hh =>
    refine (clone_some x n c S w hn ?_).mono ?_
    · intro j hj
      rcases hh with rfl | ⟨b, off, h, hc⟩
      · omega
      · obtain rfl := Option.some.inj h
        exact ⟨rfl, hc j hj⟩
    · rintro e w' ⟨rfl, HC⟩
      have hB : Below w.heap.size w w' := by obtain ⟨xs, ho, hl, hx, hb, hs⟩ := HC; exact hb
      exact ⟨_, rfl, ⟨hm, hS, .inr ⟨_, 0, rfl, HC.row⟩⟩, rfl, hB⟩

theorem SRow.below {w w' : World} {a : Option Addr} {n : Nat} {S : Nat → ByteArray} (h : SRow w a n S) (hB : Below w.heap.size w w') : SRow w' a n S := by
  obtain ⟨h1, h2, h3⟩ := h
  refine ⟨h1, h2, ?_⟩
  rcases h3 with h | ⟨b, off, rfl, hc⟩
  · exact .inl h
  · exact .inr ⟨b, off, rfl, fun j hj => by have h := hc j hj; rw [hB.cell (World.block_lt_of_cell? _ _ h)]; exact h⟩
end Go.Proofs.Qxb6603151a
