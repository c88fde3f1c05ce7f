/-
  More walks: ZZCommand, the byte counts, the copy of a slice of strings.
-/
import Derived.Test.Qxb6602727aCmdWalks
import Derived.Laws.Rows
namespace Go.Proofs.Qxb6602727a
set_option linter.unusedVariables false
open Go.RowKit

set_option maxHeartbeats 400000 in
theorem cmd_nil (a : Option Addr) (c : Nat) (w : World) :
    Calls Try.prog 13 #[.slice a 0 c] w fun e w' => e = .returned (.string ⟨#[]⟩) ∧ w' = w := by
  go_enter Try.func13, Try.ntmps13
  go_wp2
  refine wp_loop_rounds 1 ?_
  rw [rounds_succ]
  go_wp2
  go_ret
  exact ⟨rfl, rfl⟩

theorem cmd_row (a : Option Addr) (n c : Nat) (S : Nat → ByteArray) (w : World) (hn : n ≤ 1099511627776) (hrow : SRow w a n S) :
    Calls Try.prog 13 #[.slice a n c] w fun e w' => e = .returned (.string (cmdF S n n 0)) ∧ w' = w := by
  obtain ⟨_, _, rfl | ⟨b, off, rfl, hc⟩⟩ := hrow
  · exact cmd_nil a c w
  · exact cmd_some b off n c S w hn hc

theorem zzcmd (a : Option Addr) (n c : Nat) (S : Nat → ByteArray) (w : World) (hn : n ≤ 1099511627776) (hrow : SRow w a n S) :
    Calls Try.prog 9 #[.slice a n c] w fun e w' => e = .returned (.string (cmdF S n n 0)) ∧ w' = w := by
  go_enter Try.func9, Try.ntmps9
  go_wp2_with (go_at_call 13; refine (cmd_row a n c S w hn hrow).mono ?_; rintro e w' ⟨rfl, rfl⟩)
  go_ret
  exact ⟨rfl, rfl⟩

/-- The count's answer: a number that bounds the length. -/
def Counted (n : Nat) (e : Ending) : Prop := ∃ t : Nat, e = .returned (.int .i64 (t : Int)) ∧ t ≤ 1048577 ∧ (t ≤ 1048576 → n ≤ 65536)

set_option maxHeartbeats 400000 in
theorem count_some (b off n c : Nat) (S : Nat → ByteArray) (w : World) (hS : ∀ j : Nat, (S j).size ≤ 9223372036854775807) (hn : n ≤ 65536)
    (hc : ∀ j, j < n → w.cell? ⟨b, off + j, none⟩ = some (.string (S j))) :
    Calls Try.prog 7 #[.slice (some ⟨b, off, none⟩) n c] w fun e w' => Counted n e ∧ w' = w := by
  have hd : decide ((65536 : Int) < (n : Int)) = false := decide_eq_false (by omega)
  go_enter Try.func7, Try.ntmps7
  go_wp2
  clear hd
  go_loop [3, 4] (fun t p => ∃ k t' : Nat, k ≤ n ∧ t' ≤ 1048576 ∧ t = .int .i64 (t' : Int) ∧ p = .int .i64 (k : Int)) (fun _ p => n - (intOf p).toNat)
  case atStart => exact ⟨0, 16 * n, by omega, by omega, by go_num, rfl⟩
  case round =>
    obtain ⟨k, t, hk, ht, rfl, rfl⟩ := hrel
    by_cases hlt : k < n
    · have hcell := hc k hlt
      have hk2 := hS k
      clear hc hS
      by_cases h1 : (S k).size ≤ 1048576
      · by_cases h2 : t + (S k).size ≤ 1048576
        · go_wp2
          go_round
          case rel => exact ⟨k + 1, t + (S k).size, by omega, by omega, by go_num, by go_num⟩
          case measure => simp [intOf]; omega
        · go_wp2
          go_ret
          exact ⟨⟨1048577, rfl, by omega, fun _ => hn⟩, rfl⟩
      · go_wp2
        go_ret
        exact ⟨⟨1048577, rfl, by omega, fun _ => hn⟩, rfl⟩
    · clear hc hS
      go_wp2
      go_ret
      exact ⟨⟨t, rfl, by omega, fun _ => hn⟩, rfl⟩

set_option maxHeartbeats 400000 in
theorem count_big (a : Option Addr) (n c : Nat) (w : World) (hm : n ≤ 9223372036854775807) (hn : ¬ n ≤ 65536) :
    Calls Try.prog 7 #[.slice a n c] w fun e w' => Counted n e ∧ w' = w := by
  go_enter Try.func7, Try.ntmps7
  go_wp2
  go_ret
  exact ⟨⟨1048577, rfl, by omega, fun h => by omega⟩, rfl⟩

set_option maxHeartbeats 400000 in
theorem count_nil (a : Option Addr) (c : Nat) (w : World) :
    Calls Try.prog 7 #[.slice a 0 c] w fun e w' => Counted 0 e ∧ w' = w := by
  go_enter Try.func7, Try.ntmps7
  go_wp2
  refine wp_loop_rounds 1 ?_
  rw [rounds_succ]
  go_wp2
  go_ret
  exact ⟨⟨0, rfl, by omega, fun h => by omega⟩, rfl⟩

theorem count_row (a : Option Addr) (n c : Nat) (S : Nat → ByteArray) (w : World) (hrow : SRow w a n S) :
    Calls Try.prog 7 #[.slice a n c] w fun e w' => Counted n e ∧ w' = w := by
  obtain ⟨hm, hS, rfl | ⟨b, off, rfl, hc⟩⟩ := hrow
  · exact count_nil a c w
  · by_cases hn : n ≤ 65536
    · exact count_some b off n c S w hS hn hc
    · exact count_big _ n c w hm hn

/-- It answers a bool. -/
def Bit (e : Ending) : Prop := ∃ r : Bool, e = .returned (.bool r)

set_option maxHeartbeats 400000 in
theorem bytes6_some (b off n c : Nat) (S : Nat → ByteArray) (w : World) (hS : ∀ j : Nat, (S j).size ≤ 9223372036854775807) (hn : n ≤ 1048576)
    (hc : ∀ j, j < n → w.cell? ⟨b, off + j, none⟩ = some (.string (S j))) :
    Calls Try.prog 6 #[.slice (some ⟨b, off, none⟩) n c] w fun e w' => Bit e ∧ w' = w := by
  have hd : decide ((1048576 : Int) < (n : Int)) = false := decide_eq_false (by omega)
  go_enter Try.func6, Try.ntmps6
  go_wp2
  clear hd
  go_loop [3, 4] (fun t p => ∃ k t' : Nat, k ≤ n ∧ t' ≤ 1048576 ∧ t = .int .i64 (t' : Int) ∧ p = .int .i64 (k : Int)) (fun _ p => n - (intOf p).toNat)
  case atStart => exact ⟨0, n, by omega, by omega, by go_num, rfl⟩
  case round =>
    obtain ⟨k, t, hk, ht, rfl, rfl⟩ := hrel
    by_cases hlt : k < n
    · have hcell := hc k hlt
      have hk2 := hS k
      clear hc hS
      by_cases h1 : (S k).size ≤ 1048576
      · by_cases h2 : t + (S k).size ≤ 1048576
        · go_wp2
          go_round
          case rel => exact ⟨k + 1, t + (S k).size, by omega, by omega, by go_num, by go_num⟩
          case measure => simp [intOf]; omega
        · go_wp2
          go_ret
          exact ⟨⟨_, rfl⟩, rfl⟩
      · go_wp2
        go_ret
        exact ⟨⟨_, rfl⟩, rfl⟩
    · clear hc hS
      go_wp2
      go_ret
      exact ⟨⟨_, rfl⟩, rfl⟩

set_option maxHeartbeats 400000 in
theorem bytes6_big (a : Option Addr) (n c : Nat) (w : World) (hm : n ≤ 9223372036854775807) (hn : ¬ n ≤ 1048576) :
    Calls Try.prog 6 #[.slice a n c] w fun e w' => Bit e ∧ w' = w := by
  go_enter Try.func6, Try.ntmps6
  go_wp2
  go_ret
  exact ⟨⟨_, rfl⟩, rfl⟩

set_option maxHeartbeats 400000 in
theorem bytes6_nil (a : Option Addr) (c : Nat) (w : World) :
    Calls Try.prog 6 #[.slice a 0 c] w fun e w' => Bit e ∧ w' = w := by
  go_enter Try.func6, Try.ntmps6
  go_wp2
  refine wp_loop_rounds 1 ?_
  rw [rounds_succ]
  go_wp2
  go_ret
  exact ⟨⟨_, rfl⟩, rfl⟩

theorem bytes6_row (a : Option Addr) (n c : Nat) (S : Nat → ByteArray) (w : World) (hrow : SRow w a n S) :
    Calls Try.prog 6 #[.slice a n c] w fun e w' => Bit e ∧ w' = w := by
  obtain ⟨hm, hS, rfl | ⟨b, off, rfl, hc⟩⟩ := hrow
  · exact bytes6_nil a c w
  · by_cases hn : n ≤ 1048576
    · exact bytes6_some b off n c S w hS hn hc
    · exact bytes6_big _ n c w hm hn
end Go.Proofs.Qxb6602727a
