/-
  The walks: strings.HasPrefix, command, ZZCommand, the byte counts.
-/
import Derived.Test.Qxb6602727aProg
import Derived.Test.Qxb6602727aCmdPlain
import Derived.WalkKit
import Derived.WalkSpells
namespace Go.Proofs.Qxb6602727a
set_option linter.unusedVariables false
open Go.RowKit

set_option maxHeartbeats 400000 in
theorem hp (s : ByteArray) (w : World) :
    Calls Try.prog 14 #[.string s, .string ⟨#[45]⟩] w fun e w' => e = .returned (.bool (dash s)) ∧ w' = w := by
  have h0 : dash s = Lib.hasPrefix s.data.toList (⟨#[45]⟩ : ByteArray).data.toList := rfl
  rw [h0, ← Lib.hasPrefix_raw]
  generalize (⟨#[45]⟩ : ByteArray) = p
  clear h0
  go_enter Try.func14, Try.ntmps14
  go_wp2
  · rename_i h
    go_ret
    refine ⟨?_, rfl⟩
    show Ending.returned (Value.bool ((s.extract 0 p.size).toList == p.toList)) = _
    simp [h]
  · rename_i h
    go_ret
    refine ⟨?_, rfl⟩
    show Ending.returned (Value.bool false) = _
    simp [h]

/-- The strings of a slice, as they lie. -/
def SRow (w : World) (a : Option Addr) (n : Nat) (S : Nat → ByteArray) : Prop :=
  n ≤ 9223372036854775807 ∧ (∀ j : Nat, (S j).size ≤ 9223372036854775807) ∧
  (n = 0 ∨ ∃ b off, a = some ⟨b, off, none⟩ ∧ ∀ j, j < n → w.cell? ⟨b, off + j, none⟩ = some (.string (S j)))

set_option maxHeartbeats 400000 in
theorem cmd_some (b off n c : Nat) (S : Nat → ByteArray) (w : World) (hn : n ≤ 1099511627776)
    (hc : ∀ j, j < n → w.cell? ⟨b, off + j, none⟩ = some (.string (S j))) :
    Calls Try.prog 13 #[.slice (some ⟨b, off, none⟩) n c] w fun e w' => e = .returned (.string (cmdF S n n 0)) ∧ w' = w := by
  go_enter Try.func13, Try.ntmps13
  go_wp2
  go_loop [3] (fun p => ∃ k f : Nat, k ≤ n + 1 ∧ n ≤ f + k ∧ p = .int .i64 (k : Int) ∧ Hid (cmdF S n n 0 = cmdF S n f k)) (fun p => n + 2 - (intOf p).toNat)
  case atStart => exact ⟨0, n, by omega, by omega, rfl, rfl⟩
  case round =>
    obtain ⟨k, f, hk, hf, rfl, HF⟩ := hrel
    by_cases hlt : k < n
    · obtain ⟨f, rfl⟩ : ∃ f', f = f' + 1 := ⟨f - 1, by omega⟩
      have hcell := hc k hlt
      clear hc
      by_cases h1 : ((S k).toList == [45, 99]) = true
      · have HP : Hid (pass (S k) = true) := by show pass (S k) = true; unfold pass; rw [h1]; rfl
        go_wp2
        go_round
        case rel => exact ⟨k + 2, f, by omega, by omega, by go_num, HF.out.trans (cmdF_pass hlt HP.out)⟩
        case measure => simp [intOf]; omega
      · by_cases h2 : ((S k).toList == [45, 67]) = true
        · have HP : Hid (pass (S k) = true) := by show pass (S k) = true; unfold pass; rw [h2, Bool.or_true]
          replace h1 : ((S k).toList == [45, 99]) = false := by simpa using h1
          go_wp2
          go_round
          case rel => exact ⟨k + 2, f, by omega, by omega, by go_num, HF.out.trans (cmdF_pass hlt HP.out)⟩
          case measure => simp [intOf]; omega
        · replace h1 : ((S k).toList == [45, 99]) = false := by simpa using h1
          replace h2 : ((S k).toList == [45, 67]) = false := by simpa using h2
          have HP : Hid (pass (S k) = false) := by show pass (S k) = false; unfold pass; rw [h1, h2]; rfl
          cases hd : dash (S k)
          · go_wp2_with (go_at_call 14; refine (hp _ _).mono ?_; rintro e w' ⟨rfl, rfl⟩)
            go_ret
            exact ⟨by rw [HF.out, cmdF_hit hlt HP.out hd]; rfl, rfl⟩
          · go_wp2_with (go_at_call 14; refine (hp _ _).mono ?_; rintro e w' ⟨rfl, rfl⟩)
            go_round
            case rel => exact ⟨k + 1, f, by omega, by omega, by go_num, HF.out.trans (cmdF_dash hlt HP.out hd)⟩
            case measure => simp [intOf]; omega
    · clear hc
      go_wp2
      go_ret
      exact ⟨by rw [HF.out, cmdF_end S n f k (by omega)]; rfl, rfl⟩
end Go.Proofs.Qxb6602727a
