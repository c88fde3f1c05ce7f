/-
  The walk of zzSameText.
-/
import Derived.Test.Qxb6603151aCounts
import Derived.BigQuiet
import Derived.Deep.Cut
namespace Go.Proofs.Qxb6603151a
set_option linter.unusedVariables false
open Go.RowKit

/-- The bytes as a string. -/
def strOf (zs : List Int) : ByteArray := ⟨(zs.map fun z => UInt8.ofNat z.toNat).toArray⟩
theorem strOf_size (zs : List Int) : (strOf zs).size = zs.length := by simp [strOf, ByteArray.size]
theorem strOf_at (zs : List Int) (hb : ∀ j : Nat, 0 ≤ zs[j]?.getD 0 ∧ zs[j]?.getD 0 ≤ 255) (j : Nat) (h : j < (strOf zs).size) : (((strOf zs)[j]'h).toNat : Int) = zs[j]?.getD 0 := by
  have hj : j < zs.length := by rw [strOf_size] at h; exact h
  have hbj := hb j
  simp [hj] at hbj ⊢
  show (((zs.map fun z => UInt8.ofNat z.toNat).toArray[j]'(by simpa using hj)).toNat : Int) = _
  simp
  omega

theorem belowD (B : Nat) (w : World) (n : Nat) : Below B w (w.drewN n) := ⟨rfl, rfl, rfl, Nat.le_refl _, fun _ _ => rfl⟩

set_option maxHeartbeats 400000 in
theorem same_some (b off n c : Nat) (zs : List Int) (s : ByteArray) (w : World) (hl : zs.length = n) (hs : s.size = n) (hn : n ≤ 1048576)
    (hb : ∀ j (h : j < s.size), ((s[j]'h).toNat : Int) = zs[j]?.getD 0)
    (hc : ∀ j, j < n → w.cell? ⟨b, off + j, none⟩ = some (.int .u8 (zs[j]?.getD 0))) :
    Calls Try.prog 21 #[.string s, .slice (some ⟨b, off, none⟩) n c] w fun e w' => e = .returned (.bool true) ∧ ∃ m, w' = w.drewN m := by
  go_enter Try.func21, Try.ntmps21
  go_wp2
  go_loopw [5] (fun x wr => ∃ k : Nat, k ≤ n ∧ x = .int .i64 (k : Int) ∧ ∃ m, wr = w.drewN m) (fun x _ => n - (intOf x).toNat)
  case atStart => exact ⟨0, by omega, rfl, 0, rfl⟩
  case round =>
    obtain ⟨k, hk, rfl, m, rfl⟩ := hrel
    by_cases hlt : k < n
    · have hcell := hc k hlt
      have hks : k < s.size := by omega
      have hbk := hb k hks
      have kI : (k : Int) < (n : Int) := by omega
      have kI0 : (0 : Int) ≤ (k : Int) := by omega
      have kI2 : (k : Int) < (s.size : Int) := by omega
      clear hc hb
      go_upto_region 6 with fail
      go_quiet (fail)
      go_wp2
      go_roundw
      case rel => exact ⟨k + 1, by omega, by go_num, m + nq, rfl⟩
      case measure => simp [intOf]; omega
    · clear hc hb
      go_wp2
      go_ret
      exact ⟨rfl, m, rfl⟩

set_option maxHeartbeats 400000 in
theorem same_nil (a : Option Addr) (c : Nat) (s : ByteArray) (w : World) (hs : s.size = 0) :
    Calls Try.prog 21 #[.string s, .slice a 0 c] w fun e w' => e = .returned (.bool true) ∧ ∃ m, w' = w.drewN m := by
  go_enter Try.func21, Try.ntmps21
  go_wp2
  refine wp_loop_rounds 1 ?_
  rw [rounds_succ]
  go_wp2
  go_ret
  exact ⟨rfl, 0, rfl⟩

theorem same_text (f : Fd) (s : ByteArray) (w : World) (h : FIn w f) (hn : f.n ≤ 1048576) (hs : s = strOf f.zs) :
    Calls Try.prog 21 #[.string s, .slice f.a f.n f.c] w fun e w' => e = .returned (.bool true) ∧ ∃ m, w' = w.drewN m := by
  subst hs
  obtain ⟨a, n, c, zs⟩ := f
  have hl : zs.length = n := h.len
  rcases h.row with h0 | ⟨b, off, ha, hc⟩
  · have h0' : n = 0 := h0
    subst h0'
    exact same_nil a c _ w (by rw [strOf_size]; exact hl)
  · have ha' : a = some ⟨b, off, none⟩ := ha
    subst ha'
    exact same_some b off n c zs _ w hl (by rw [strOf_size]; exact hl) hn (fun j hj => strOf_at zs h.byte j hj) hc
end Go.Proofs.Qxb6603151a
