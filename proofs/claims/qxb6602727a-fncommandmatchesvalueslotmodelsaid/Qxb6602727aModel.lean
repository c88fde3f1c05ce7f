/-
  The walk of lawCommandModel.
-/
import Derived.Test.Qxb6602727aCmdClone
namespace Go.Proofs.Qxb6602727a
set_option linter.unusedVariables false
open Go.RowKit

theorem Try.info4 : (Try.prog.info? 4).map (fun i => (i.zero, i.size, i.bytes)) = some (some (.bool false), 1, 1) := by kernel_rfl

/-- What the first pass has marked so far. -/
def Marked (w wr : World) (n k : Nat) (S : Nat → ByteArray) : Prop :=
  ∃ xs : List Value, wr.ownsRow w.heap.size 4 1 (.slice (some ⟨w.heap.size, 0, none⟩) n n) n xs ∧ xs.length = n ∧ (∀ j, j < n → xs[j]? = some (.bool (if j < k then val S j else false))) ∧ Below w.heap.size w wr ∧ w.heap.size < wr.heap.size

theorem Marked.cell {w wr : World} {n k : Nat} {S : Nat → ByteArray} (h : Marked w wr n k S) (j : Nat) (hk : j < n) :
    wr.cell? ⟨w.heap.size, j, none⟩ = some (.bool (if j < k then val S j else false)) := by
  obtain ⟨xs, ho, hl, hx, _⟩ := h
  rw [ho.cellAt j (by omega)]
  exact hx j hk
theorem Marked.frozen {w wr : World} {n k : Nat} {S : Nat → ByteArray} (h : Marked w wr n k S) (j : Nat) : wr.frozen? ⟨w.heap.size, j, none⟩ = false := by
  obtain ⟨xs, ho, _⟩ := h
  exact ho.frozenAt j
theorem Marked.store {w wr : World} {n k : Nat} {S : Nat → ByteArray} (h : Marked w wr n k S) (hk : k < n) (hv : val S k = true) :
    Marked w (wr.setCell ⟨w.heap.size, k, none⟩ (.bool true)) n (k + 1) S := by
  obtain ⟨xs, ho, hl, hx, hb, hs⟩ := h
  have hst := ho.stored k (.bool true)
  refine ⟨_, hst.1, by simpa using hl, fun j hj => ?_, hb.setCell (Nat.le_refl _) _, by simpa using hs⟩
  by_cases e : j = k
  · subst e; rw [List.getElem?_set_self (by omega), if_pos (by omega), hv]
  · rw [List.getElem?_set_ne (by omega), hx j hj]
    by_cases h : j < k
    · rw [if_pos h, if_pos (by omega)]
    · rw [if_neg h, if_neg (by omega)]
theorem Marked.skip {w wr : World} {n k : Nat} {S : Nat → ByteArray} (h : Marked w wr n k S) (hv : val S k = false) : Marked w wr n (k + 1) S := by
  obtain ⟨xs, ho, hl, hx, hb, hs⟩ := h
  refine ⟨_, ho, hl, fun j hj => ?_, hb, hs⟩
  rw [hx j hj]
  by_cases e : j = k
  · subst e; rw [if_neg (by omega), if_pos (by omega), hv]
  · by_cases h : j < k
    · rw [if_pos h, if_pos (by omega)]
    · rw [if_neg h, if_neg (by omega)]

theorem dash_first {s : ByteArray} (h : 0 < s.size) : dash s = (((s[0]'h).toNat : Int) == 45) := by
  obtain ⟨⟨l⟩⟩ := s
  match l, h with
  | x :: l, h =>
    show Lib.hasPrefix (x :: l) [45] = ((x.toNat : Int) == 45)
    have e : Lib.hasPrefix (x :: l) [45] = (45 == x) := by simp [Lib.hasPrefix, List.isPrefixOf]
    rw [e, Bool.eq_iff_iff, beq_iff_eq, beq_iff_eq]
    constructor
    · intro h; subst h; rfl
    · intro h
      have h2 : x.toNat = (45 : UInt8).toNat := by
        have : (45 : UInt8).toNat = 45 := rfl
        omega
      exact (UInt8.toNat_inj.mp h2).symm
theorem dash_none {s : ByteArray} (h : ¬ 0 < s.size) : dash s = false := by
  obtain ⟨⟨l⟩⟩ := s
  match l, h with
  | [], h => rfl
  | x :: l, h => exact absurd (Nat.succ_pos l.length) h

set_option maxHeartbeats 400000 in
theorem model_some (b off n c : Nat) (S : Nat → ByteArray) (w : World) (hn : n ≤ 65536)
    (hc : ∀ j, j < n → w.cell? ⟨b, off + j, none⟩ = some (.string (S j))) :
    Calls Try.prog 10 #[.slice (some ⟨b, off, none⟩) n c] w fun e w' => e = .returned (.string (modF S n n 0)) ∧ Below w.heap.size w w' := by
  obtain ⟨i0, hi, hz0, hz1, hz2⟩ := info_parts Try.info4
  go_enter Try.func10, Try.ntmps10
  go_wp2_with (at_make; refine wpList_make_full _ rfl (.tmp 10) (.tmp 10) 29 rfl w.heap.size 4 i0 (.bool false) 1 Try.underlying29 hi hz0 hz1 .i64 .i64 n n n rfl rfl rfl rfl (by rw [hz2]; omega) (by unfold maxLen; omega) (Nat.le_refl _) ?_; intro w1 hown hgrow)
  have H0 : Marked w w1 n 1 S := by
    refine ⟨_, hown, by simp [madeCells], fun j hj => ?_, (Below.refl _ _).grown hgrow (Nat.le_refl _) (fun k hk => by cases hk), (hown.lt _ rfl).2⟩
    have : (if j < 1 then val S j else false) = false := by
      split
      · have : j = 0 := by omega
        subst this; rfl
      · rfl
    rw [this]
    simp [madeCells, Value.cells, hj, Nat.mod_one]
  clear hown hgrow
  go_loopw [5] (fun q wr => ∃ k : Nat, 1 ≤ k ∧ k ≤ n + 1 ∧ q = .int .i64 (k : Int) ∧ Marked w wr n k S) (fun q _ => n + 1 - (intOf q).toNat)
  case atStart => exact ⟨1, by omega, by omega, rfl, H0⟩
  case round =>
    obtain ⟨k, hk1, hk, rfl, HC⟩ := hrel
    by_cases hlt : k < n
    · have hcell : wr.cell? ⟨b, off + (k - 1), none⟩ = some (.string (S (k - 1))) := by
        have h := hc (k - 1) (by omega)
        obtain ⟨xs, ho, hl, hx, hb, hs⟩ := HC
        rw [hb.cell (World.block_lt_of_cell? _ _ h)]; exact h
      have hm := HC.cell (k - 1) (by omega)
      rw [if_pos (by omega)] at hm
      have hm2 := HC.cell k hlt
      have hf := HC.frozen k
      have HV : Hid (val S k = (!val S (k - 1) && pass (S (k - 1)))) := by
        show val S k = _
        obtain ⟨m, rfl⟩ : ∃ m, k = m + 1 := ⟨k - 1, by omega⟩
        rfl
      have HM : Hid (Marked w wr n k S) := HC
      clear hc HC H0
      cases hv : val S (k - 1)
      · go_wp2
        · have hh : (S (k - 1)).toList = [45, 99] := by assumption
          have hvk : val S k = true := by rw [HV.out, hv]; unfold pass; rw [hh]; rfl
          go_roundw
          case rel => exact ⟨k + 1, by omega, by omega, by go_num, HM.out.store hlt hvk⟩
          case measure => simp [intOf]; omega
        · have hh : ((S (k - 1)).toList == [45, 99]) = true ∨ ((S (k - 1)).toList == [45, 67]) = true := by assumption
          have hvk : val S k = true := by rw [HV.out, hv]; unfold pass; rcases hh with h | h <;> simp [h]
          go_roundw
          case rel => exact ⟨k + 1, by omega, by omega, by go_num, HM.out.store hlt hvk⟩
          case measure => simp [intOf]; omega
        · have hh : ((S (k - 1)).toList == [45, 99]) = false ∧ ((S (k - 1)).toList == [45, 67]) = false := by assumption
          have hvk : val S k = false := by rw [HV.out, hv]; unfold pass; rw [hh.1, hh.2]; rfl
          go_roundw
          case rel => exact ⟨k + 1, by omega, by omega, by go_num, HM.out.skip hvk⟩
          case measure => simp [intOf]; omega
      · have hvk : val S k = false := by rw [HV.out, hv]; rfl
        go_wp2
        go_roundw
        case rel => exact ⟨k + 1, by omega, by omega, by go_num, HM.out.skip hvk⟩
        case measure => simp [intOf]; omega
    · have hb : ∀ j, j < n → wr.cell? ⟨w.heap.size, j, none⟩ = some (.bool (val S j)) := fun j hj => by
        have := HC.cell j hj
        rwa [if_pos (by omega)] at this
      have hB : Below w.heap.size w wr := by obtain ⟨xs, ho, hl, hx, hb, hs⟩ := HC; exact hb
      have hc2 : ∀ j, j < n → wr.cell? ⟨b, off + j, none⟩ = some (.string (S j)) := fun j hj => by
        have h := hc j hj
        rw [hB.cell (World.block_lt_of_cell? _ _ h)]; exact h
      have HB : Hid (Below w.heap.size w wr) := hB
      clear hc HC H0 hB
      go_wp2
      go_loop [6] (fun p => ∃ k f : Nat, k ≤ n ∧ n ≤ f + k ∧ p = .int .i64 (k : Int) ∧ Hid (modF S n n 0 = modF S n f k)) (fun p => n - (intOf p).toNat)
      case atStart => exact ⟨0, n, by omega, by omega, rfl, rfl⟩
      case round =>
        obtain ⟨k2, f, hk2, hf, rfl, HF⟩ := hrel
        by_cases hlt2 : k2 < n
        · obtain ⟨f, rfl⟩ : ∃ f', f = f' + 1 := ⟨f - 1, by omega⟩
          have h1 := hb k2 hlt2
          have h2 := hc2 k2 hlt2
          clear hb hc2
          cases hv : val S k2
          · rw [hv] at h1
            go_wp2
            · have hs : 0 < (S k2).size := by assumption
              have he : (((S k2)[0]'hs).toNat == (45 : Int)) = true := by assumption
              have hd : dash (S k2) = true := by rw [dash_first hs]; exact he
              go_round
              case rel => exact ⟨k2 + 1, f, by omega, by omega, by go_num, HF.out.trans (modF_dash hlt2 hv hd)⟩
              case measure => simp [intOf]; omega
            · have hs : 0 < (S k2).size := by assumption
              have he : (((S k2)[0]'hs).toNat == (45 : Int)) = false := by assumption
              have hd : dash (S k2) = false := by rw [dash_first hs]; exact he
              go_ret
              exact ⟨by rw [HF.out, modF_hit hlt2 hv hd]; rfl, HB.out⟩
            · have hs : ¬ 0 < (S k2).size := by assumption
              go_ret
              exact ⟨by rw [HF.out, modF_hit hlt2 hv (dash_none hs)]; rfl, HB.out⟩
          · rw [hv] at h1
            go_wp2
            go_round
            case rel => exact ⟨k2 + 1, f, by omega, by omega, by go_num, HF.out.trans (modF_val hlt2 hv)⟩
            case measure => simp [intOf]; omega
        · clear hb hc2
          go_wp2
          go_ret
          exact ⟨by rw [HF.out, modF_end S n f k2 (by omega)]; rfl, HB.out⟩

set_option maxHeartbeats 400000 in
theorem model_nil (a : Option Addr) (c : Nat) (w : World) :
    Calls Try.prog 10 #[.slice a 0 c] w fun e w' => e = .returned (.string ⟨#[]⟩) ∧ Below w.heap.size w w' := by
  obtain ⟨i0, hi, hz0, hz1, hz2⟩ := info_parts Try.info4
  go_enter Try.func10, Try.ntmps10
  go_wp2_with (at_make; refine wpList_make_full _ rfl (.tmp 10) (.tmp 10) 29 rfl w.heap.size 4 i0 (.bool false) 1 Try.underlying29 hi hz0 hz1 .i64 .i64 0 0 0 rfl rfl rfl rfl (by rw [hz2]; omega) (by unfold maxLen; omega) (Nat.le_refl _) ?_; intro w1 hown hgrow)
  have hB : Below w.heap.size w w1 := (Below.refl _ _).grown hgrow (Nat.le_refl _) (fun k hk => by cases hk)
  clear hown hgrow
  refine wp_loop_rounds 1 ?_
  rw [rounds_succ]
  go_wp2
  refine wp_loop_rounds 1 ?_
  rw [rounds_succ]
  go_wp2
  go_ret
  exact ⟨rfl, hB⟩

theorem model_row (a : Option Addr) (n c : Nat) (S : Nat → ByteArray) (w : World) (hn : n ≤ 65536) (hrow : SRow w a n S) :
    Calls Try.prog 10 #[.slice a n c] w fun e w' => e = .returned (.string (modF S n n 0)) ∧ Below w.heap.size w w' := by
  obtain ⟨_, _, rfl | ⟨b, off, rfl, hc⟩⟩ := hrow
  · exact model_nil a c w
  · exact model_some b off n c S w hn hc
end Go.Proofs.Qxb6602727a
