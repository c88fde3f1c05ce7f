/-
  (*strings.Builder).Write, walked in this program.
-/
import Derived.Test.Qxb6603151aBuild
namespace Go.Proofs.Qxb6603151a
set_option linter.unusedVariables false
open Go.RowKit

theorem Try.info5 : (Try.prog.info? 5).map (fun i => (i.zero, i.size, i.bytes)) = some (some (.int .u8 0), 1, 1) := by kernel_rfl

theorem keep2 {b : Nat} {p v : Value} {w1 w2 : World} (hbk : w1.heap[b]? = some (.cells #[p, v] 50 (0, 0))) (hgrow : w1.grownBy w2 v.ownBlock) (hne : v.ownBlock ≠ some b) : w2.heap[b]? = some (.cells #[p, v] 50 (0, 0)) := by
  have hlt : b < w1.heap.size := by
    rcases Nat.lt_or_ge b w1.heap.size with h' | h'
    · exact h'
    · simp [Array.getElem?_eq_none h'] at hbk
  rw [hgrow.block b hlt (fun e => hne e.symm)]
  exact hbk
theorem cell0 {b : Nat} {p v : Value} {w : World} (h : w.heap[b]? = some (.cells #[p, v] 50 (0, 0))) : w.cell? ⟨b, 0, none⟩ = some p := by rw [Lib.cell_of_heap h]; rfl
theorem cell1 {b : Nat} {p v : Value} {w : World} (h : w.heap[b]? = some (.cells #[p, v] 50 (0, 0))) : w.cell? ⟨b, 1, none⟩ = some v := by rw [Lib.cell_of_heap h]; rfl
theorem own_form {w : World} {B n : Nat} {v : Value} {xs : List Value} (h : w.ownsRow B 5 1 v n xs) : ∃ ao cap, v = .slice ao n cap := by
  rcases h.2 with ⟨hv, h0⟩ | ⟨g, cap, cur, hv, _⟩
  · exact ⟨none, 0, by rw [hv, h0]⟩
  · exact ⟨_, _, hv⟩

set_option maxHeartbeats 2000000 in
theorem write_some (B b fb off m c : Nat) (bs : List Value) (zs : List Int) (w : World) (h : Lib.IsBuilder 50 5 B b bs w) (hlen : bs.length + m ≤ 140737488355328) (hBw : B ≤ w.heap.size)
    (hz : zs.length = m) (hfb : fb < B) (hc : ∀ j, j < m → w.cell? ⟨fb, off + j, none⟩ = some (.int .u8 (zs[j]?.getD 0))) :
    Calls Try.prog 28 #[.pointer (some ⟨b, 0, none⟩), .slice (some ⟨fb, off, none⟩) m c] w fun e w' => e = .returned (.tuple #[.int .i64 (m : Int), .nilIface]) ∧ (Lib.BuilderAt 50 5 B b (.pointer (some ⟨b, 0, none⟩)) (bs ++ zs.map (Value.int .u8)) w' ∧ Below B w w') := by
  obtain ⟨i0, hi, hz0, hz1, hz2⟩ := info_parts Try.info5
  go_enter Try.func28, Try.ntmps28
  go_wp2_with (go_at_call 31; refine (check B b bs _ h).mono ?_)
  rintro e w1 ⟨rfl, h1, hb1⟩
  obtain ⟨hB, v, hbk, hown, hne⟩ := h1
  have c0 : w1.cell? ⟨b, 0, none⟩ = some (.pointer (some ⟨b, 0, none⟩)) := by rw [Lib.cell_of_heap hbk]; rfl
  have c1 : w1.cell? ⟨b, 1, none⟩ = some v := by rw [Lib.cell_of_heap hbk]; rfl
  have hc1 : ∀ j u, (zs.map (Value.int .u8))[j]? = some u → w1.cell? ((⟨fb, off, none⟩ : Addr).add j) = some u := by
    intro j u hj
    have hjl : j < zs.length := by
      rcases Nat.lt_or_ge j zs.length with h' | h'
      · exact h'
      · rw [List.getElem?_eq_none (by simpa using h')] at hj; cases hj
    have hcj := hc j (by omega)
    rw [Go.WideShapes.add_plain, hb1.cell (by exact hfb), hcj]
    rw [List.getElem?_map] at hj
    simp [hjl] at hj
    simp [hjl, hj]
  clear hc
  go_wp2_with (at_builtin; refine wpList_append_own _ rfl (.tmp 12) (.tmp 13) 41 rfl B 5 i0 (.int .u8 0) 1 1 Try.underlying41 hi hz0 hz1 hz2 rfl (by decide) v bs.length bs rfl hown ⟨fb, off, none⟩ m c (zs.map (Value.int .u8)) rfl (by simp [hz]) hc1 (ints_oneCell _ _) (by unfold maxLen; omega) (by omega) (by have := hb1.size; omega) ?_; intro v' w2 hown' hgrow hnl; clear hnl; have hb2 := keep2 hbk hgrow hne; have d0 := cell0 hb2; have d1 := cell1 hb2; have f1 := Lib.frozen_of_heap hb2 1; obtain ⟨ao, cap, rfl⟩ := own_form hown')
  go_ret2
  refine ⟨rfl, ?_, ?_⟩
  · exact Lib.BuilderAt.put (T := 50) (e := 5) hB hb2 (bs' := bs ++ zs.map (Value.int .u8)) (by simpa [hz] using hown') (by decide)
  · exact (hb1.grown hgrow (by have := hb1.size; omega) (fun k hk => (hown.lt k hk).1)).setCell (p := ⟨b, 1, none⟩) hB _
end Go.Proofs.Qxb6603151a
