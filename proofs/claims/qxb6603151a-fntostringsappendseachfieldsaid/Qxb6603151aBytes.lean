/-
  The walk of zzBytes: it answers a bool.
-/
import Derived.Test.Qxb6603151aCounts
namespace Go.Proofs.Qxb6603151a
set_option linter.unusedVariables false
open Go.RowKit

/-- It answers a bool. -/
def Bit (e : Ending) : Prop := ∃ r : Bool, e = .returned (.bool r)

set_option maxHeartbeats 1000000 in
theorem bytes17_big (a0 a1 : Option Addr) (n0 c0 n1 c1 : Nat) (w : World) (hm : n0 ≤ 9223372036854775807) (hn : ¬ n0 ≤ 1048576) :
    Calls Try.prog 17 #[.slice a0 n0 c0, .slice a1 n1 c1] w fun e w' => Bit e ∧ w' = w := by
  go_enter Try.func17, Try.ntmps17
  go_wp2
  go_ret
  exact ⟨⟨_, rfl⟩, rfl⟩

set_option maxHeartbeats 2000000 in
theorem bytes17_some (a0 a1 : Option Addr) (n0 c0 n1 c1 : Nat) (F : Nat → Fd) (S : Nat → ByteArray) (w : World) (hn : n0 ≤ 1048576) (hR : RRow w a0 n0 F) (hS : SRow w a1 n1 S) :
    Calls Try.prog 17 #[.slice a0 n0 c0, .slice a1 n1 c1] w fun e w' => Bit e ∧ w' = w := by
  have hd : decide ((1048576 : Int) < (n0 : Int)) = false := decide_eq_false (by omega)
  go_enter Try.func17, Try.ntmps17
  go_wp2
  clear hd
  go_loop [5, 6] (fun t p => ∃ k t' : Nat, k ≤ n0 ∧ t' ≤ 1048576 ∧ t = .int .i64 (t' : Int) ∧ p = .int .i64 (k : Int)) (fun _ p => n0 - (intOf p).toNat)
  case atStart => exact ⟨0, n0, by omega, by omega, by go_num, rfl⟩
  case round =>
    obtain ⟨k, t, hk, ht, rfl, rfl⟩ := hrel
    by_cases hlt : k < n0
    · rcases hR.row with h0 | ⟨b, off, rfl, hc⟩
      · omega
      have hcell := hc k hlt
      have hk2 := (hR.fld k hlt).max
      clear hc hR hS
      by_cases h1 : (F k).n ≤ 1048576
      · by_cases h2 : t + (F k).n ≤ 1048576
        · go_wp2
          go_round
          case rel => exact ⟨k + 1, t + (F k).n, by omega, by omega, by go_num, by go_num⟩
          case measure => simp [intOf]; omega
        · go_wp2
          go_ret
          exact ⟨⟨_, rfl⟩, rfl⟩
      · go_wp2
        go_ret
        exact ⟨⟨_, rfl⟩, rfl⟩
    · obtain ⟨hm1, hS1, hS2⟩ := hS
      clear hR
      by_cases h1 : n1 ≤ 1048576
      · by_cases h2 : t + n1 ≤ 1048576
        · have hd1 : decide ((1048576 : Int) < (n1 : Int)) = false := decide_eq_false (by omega)
          have hd2 : decide ((1048576 : Int) < (t : Int) + (n1 : Int)) = false := decide_eq_false (by omega)
          go_wp2
          clear hd1 hd2
          go_loop [5, 7] (fun t p => ∃ k t' : Nat, k ≤ n1 ∧ t' ≤ 1048576 ∧ t = .int .i64 (t' : Int) ∧ p = .int .i64 (k : Int)) (fun _ p => n1 - (intOf p).toNat)
          case atStart => exact ⟨0, t + n1, by omega, by omega, by go_num, rfl⟩
          case round =>
            obtain ⟨k2, t2, hk2, ht2, rfl, rfl⟩ := hrel
            by_cases hlt2 : k2 < n1
            · rcases hS2 with h0 | ⟨b, off, rfl, hc⟩
              · omega
              have hcell := hc k2 hlt2
              have hk3 := hS1 k2
              clear hc hS1
              by_cases h3 : (S k2).size ≤ 1048576
              · by_cases h4 : t2 + (S k2).size ≤ 1048576
                · go_wp2
                  go_round
                  case rel => exact ⟨k2 + 1, t2 + (S k2).size, by omega, by omega, by go_num, by go_num⟩
                  case measure => simp [intOf]; omega
                · go_wp2
                  go_ret
                  exact ⟨⟨_, rfl⟩, rfl⟩
              · go_wp2
                go_ret
                exact ⟨⟨_, rfl⟩, rfl⟩
            · clear hS1 hS2
              go_wp2
              go_ret
              exact ⟨⟨_, rfl⟩, rfl⟩
        · clear hS1 hS2
          go_wp2
          go_ret
          exact ⟨⟨_, rfl⟩, rfl⟩
      · clear hS1 hS2
        go_wp2
        go_ret
        exact ⟨⟨_, rfl⟩, rfl⟩

theorem bytes17 (a0 a1 : Option Addr) (n0 c0 n1 c1 : Nat) (F : Nat → Fd) (S : Nat → ByteArray) (w : World) (hR : RRow w a0 n0 F) (hS : SRow w a1 n1 S) :
    Calls Try.prog 17 #[.slice a0 n0 c0, .slice a1 n1 c1] w fun e w' => Bit e ∧ w' = w := by
  by_cases hn : n0 ≤ 1048576
  · exact bytes17_some a0 a1 n0 c0 n1 c1 F S w hn hR hS
  · exact bytes17_big a0 a1 n0 c0 n1 c1 w hR.max hn
end Go.Proofs.Qxb6603151a
