/-
  Rows of byte fields, as they lie; the byte counts.
-/
import Derived.Test.Qxb6603151aStrs
namespace Go.Proofs.Qxb6603151a
set_option linter.unusedVariables false
open Go.RowKit

/-- A field: the slice's value and its bytes. -/
structure Fd where
  a : Option Addr
  n : Nat
  c : Nat
  zs : List Int
def Fd.val (f : Fd) : Value := .slice f.a f.n f.c
/-- A field, as it lies. -/
structure FIn (w : World) (f : Fd) : Prop where
  len : f.zs.length = f.n
  max : f.n ≤ 9223372036854775807
  byte : ∀ j : Nat, 0 ≤ f.zs[j]?.getD 0 ∧ f.zs[j]?.getD 0 ≤ 255
  nil : f.a = none → f.n = 0 ∧ f.c = 0
  row : f.n = 0 ∨ ∃ b off, f.a = some ⟨b, off, none⟩ ∧ ∀ j, j < f.n → w.cell? ⟨b, off + j, none⟩ = some (.int .u8 (f.zs[j]?.getD 0))
/-- The fields of a record, as they lie. -/
structure RRow (w : World) (a : Option Addr) (n : Nat) (F : Nat → Fd) : Prop where
  max : n ≤ 9223372036854775807
  row : n = 0 ∨ ∃ b off, a = some ⟨b, off, none⟩ ∧ ∀ j, j < n → w.cell? ⟨b, off + j, none⟩ = some (.slice (F j).a (F j).n (F j).c)
  fld : ∀ j, j < n → FIn w (F j)

/-- The count's answer for the record. -/
def CountR (n : Nat) (F : Nat → Fd) (e : Ending) : Prop := ∃ t : Nat, e = .returned (.int .i64 (t : Int)) ∧ t ≤ 1048577 ∧ (t ≤ 1048576 → ∀ j, j < n → (F j).n ≤ 1048576)
def CountS (e : Ending) : Prop := ∃ t : Nat, e = .returned (.int .i64 (t : Int)) ∧ t ≤ 1048577

set_option maxHeartbeats 400000 in
theorem countR_some (b off n c : Nat) (F : Nat → Fd) (w : World) (hm : ∀ j, j < n → (F j).n ≤ 9223372036854775807) (hn : 24 * n ≤ 1048576)
    (hc : ∀ j, j < n → w.cell? ⟨b, off + j, none⟩ = some (.slice (F j).a (F j).n (F j).c)) :
    Calls Try.prog 18 #[.slice (some ⟨b, off, none⟩) n c, .int .i64 1048576] w fun e w' => CountR n F e ∧ w' = w := by
  have hd : decide ((1048576 : Int) < (n : Int)) = false := decide_eq_false (by omega)
  have hd2 : decide ((1048576 : Int) < 24 * (n : Int)) = false := decide_eq_false (by omega)
  go_enter Try.func18, Try.ntmps18
  go_wp2
  clear hd hd2
  go_loop [5, 6] (fun t p => ∃ k t' : Nat, k ≤ n ∧ t' ≤ 1048576 ∧ t = .int .i64 (t' : Int) ∧ p = .int .i64 (k : Int) ∧ Hid (∀ j, j < k → (F j).n ≤ 1048576)) (fun _ p => n - (intOf p).toNat)
  case atStart => exact ⟨0, 24 * n, by omega, by omega, by go_num, rfl, fun j hj => by omega⟩
  case round =>
    obtain ⟨k, t, hk, ht, rfl, rfl, HF⟩ := hrel
    by_cases hlt : k < n
    · have hcell := hc k hlt
      have hk2 := hm k hlt
      clear hc hm
      by_cases h1 : (F k).n ≤ 1048576
      · by_cases h2 : t + (F k).n ≤ 1048576
        · go_wp2
          go_round
          case rel => exact ⟨k + 1, t + (F k).n, by omega, by omega, by go_num, by go_num, fun j hj => by
            by_cases e : j = k
            · subst e; exact h1
            · exact HF.out j (by omega)⟩
          case measure => simp [intOf]; omega
        · go_wp2
          go_ret
          exact ⟨⟨1048577, rfl, by omega, fun h => by omega⟩, rfl⟩
      · go_wp2
        go_ret
        exact ⟨⟨1048577, rfl, by omega, fun h => by omega⟩, rfl⟩
    · clear hc hm
      obtain rfl : k = n := by omega
      go_wp2
      go_ret
      exact ⟨⟨t, rfl, by omega, fun _ => HF.out⟩, rfl⟩

set_option maxHeartbeats 400000 in
theorem countR_big (a : Option Addr) (n c : Nat) (F : Nat → Fd) (w : World) (hm : n ≤ 65536) (hn : ¬ 24 * n ≤ 1048576) :
    Calls Try.prog 18 #[.slice a n c, .int .i64 1048576] w fun e w' => CountR n F e ∧ w' = w := by
  go_enter Try.func18, Try.ntmps18
  go_wp2
  go_ret
  exact ⟨⟨1048577, rfl, by omega, fun h => by omega⟩, rfl⟩

set_option maxHeartbeats 400000 in
theorem countR_nil (a : Option Addr) (c : Nat) (F : Nat → Fd) (w : World) :
    Calls Try.prog 18 #[.slice a 0 c, .int .i64 1048576] w fun e w' => CountR 0 F e ∧ w' = w := by
  go_enter Try.func18, Try.ntmps18
  go_wp2
  refine wp_loop_rounds 1 ?_
  rw [rounds_succ]
  go_wp2
  go_ret
  exact ⟨⟨0, rfl, by omega, fun h j hj => by omega⟩, rfl⟩

theorem countR (a : Option Addr) (n c : Nat) (F : Nat → Fd) (w : World) (hn : n ≤ 65536) (h : RRow w a n F) :
    Calls Try.prog 18 #[.slice a n c, .int .i64 1048576] w fun e w' => CountR n F e ∧ w' = w := by
  rcases h.row with rfl | ⟨b, off, rfl, hc⟩
  · exact countR_nil a c F w
  · by_cases h24 : 24 * n ≤ 1048576
    · exact countR_some b off n c F w (fun j hj => (h.fld j hj).max) h24 hc
    · exact countR_big _ n c F w hn h24

set_option maxHeartbeats 400000 in
theorem countS_some (b off n c : Nat) (S : Nat → ByteArray) (w : World) (hS : ∀ j : Nat, (S j).size ≤ 9223372036854775807) (hn : 16 * n ≤ 1048576)
    (hc : ∀ j, j < n → w.cell? ⟨b, off + j, none⟩ = some (.string (S j))) :
    Calls Try.prog 9 #[.slice (some ⟨b, off, none⟩) n c, .int .i64 1048576] w fun e w' => CountS e ∧ w' = w := by
  have hd : decide ((1048576 : Int) < (n : Int)) = false := decide_eq_false (by omega)
  have hd2 : decide ((1048576 : Int) < 16 * (n : Int)) = false := decide_eq_false (by omega)
  go_enter Try.func9, Try.ntmps9
  go_wp2
  clear hd hd2
  go_loop [5, 6] (fun t p => ∃ k t' : Nat, k ≤ n ∧ t' ≤ 1048576 ∧ t = .int .i64 (t' : Int) ∧ p = .int .i64 (k : Int)) (fun _ p => n - (intOf p).toNat)
  case atStart => exact ⟨0, 16 * n, by omega, by omega, by go_num, rfl⟩
  case round =>
    obtain ⟨k, t, hk, ht, rfl, rfl⟩ := hrel
    by_cases hlt : k < n
    · have hcell := hc k hlt
      have hk2 := hS k
      clear hc hS
      by_cases h1 : (S k).size ≤ 1048576
      · by_cases h2 : t + (S k).size ≤ 1048576
        · go_wp2
          go_round
          case rel => exact ⟨k + 1, t + (S k).size, by omega, by omega, by go_num, by go_num⟩
          case measure => simp [intOf]; omega
        · go_wp2
          go_ret
          exact ⟨⟨1048577, rfl, by omega⟩, rfl⟩
      · go_wp2
        go_ret
        exact ⟨⟨1048577, rfl, by omega⟩, rfl⟩
    · clear hc hS
      go_wp2
      go_ret
      exact ⟨⟨t, rfl, by omega⟩, rfl⟩

set_option maxHeartbeats 400000 in
theorem countS_nil (a : Option Addr) (c : Nat) (w : World) :
    Calls Try.prog 9 #[.slice a 0 c, .int .i64 1048576] w fun e w' => CountS e ∧ w' = w := by
  go_enter Try.func9, Try.ntmps9
  go_wp2
  refine wp_loop_rounds 1 ?_
  rw [rounds_succ]
  go_wp2
  go_ret
  exact ⟨⟨0, rfl, by omega⟩, rfl⟩

theorem countS (a : Option Addr) (n c : Nat) (S : Nat → ByteArray) (w : World) (hn : n ≤ 65536) (h : SRow w a n S) :
    Calls Try.prog 9 #[.slice a n c, .int .i64 1048576] w fun e w' => CountS e ∧ w' = w := by
  obtain ⟨_, hS, rfl | ⟨b, off, rfl, hc⟩⟩ := h
  · exact countS_nil a c w
  · exact countS_some b off n c S w hS (by omega) hc
end Go.Proofs.Qxb6603151a
