/-
  Plain mathematics of the varints: digits of seven bits, their value, the place where the varint ends. No Go in sight.
-/
import Derived.Lib.VarintBits
import Derived.Laws.Bits64
namespace Go.Proofs.Qxb6003262a
set_option linter.unusedVariables false

/-- The digit at place j. -/
def dig (zs : List Int) (j : Nat) : Int := (zs[j]?.getD 0) % 128
/-- The value of c digits from place p on, least first. -/
def val (zs : List Int) : Nat → Nat → Int
  | 0, _ => 0
  | c + 1, p => dig zs p + 128 * val zs c (p + 1)

theorem dig_bd (zs : List Int) (j : Nat) : 0 ≤ dig zs j ∧ dig zs j < 128 := by unfold dig; omega

theorem val_snoc (zs : List Int) : ∀ (c p : Nat), val zs (c + 1) p = val zs c p + dig zs (p + c) * 128 ^ c
  | 0, p => by simp [val]
  | c + 1, p => by
    rw [val, val_snoc zs c (p + 1), val, Int.pow_succ, show p + 1 + c = p + (c + 1) by omega, Int.mul_add, ← Int.add_assoc]
    congr 1
    rw [Int.mul_comm 128, Int.mul_assoc]

theorem val_bd (zs : List Int) : ∀ (c p : Nat), 0 ≤ val zs c p ∧ val zs c p < 128 ^ c
  | 0, p => by simp [val]
  | c + 1, p => by
    have h := val_bd zs c (p + 1)
    have d := dig_bd zs p
    rw [val, Int.pow_succ]
    omega

/-- The first k, from k on and with this fuel, at which a byte under 128 stands within n. -/
def find (zs : List Int) (n i : Nat) : Nat → Nat → Option Nat
  | 0, _ => none
  | f + 1, k => if i + k < n then (if zs[i + k]?.getD 0 < 128 then some k else find zs n i f (k + 1)) else none

/-- What the varint at place i reads as, and the place behind it. -/
def uv (zs : List Int) (n i : Nat) : Int × Int :=
  match find zs n i 10 0 with
  | none => (0, (n : Int) + 1)
  | some k => (val zs (k + 1) i % 18446744073709551616, (i : Int) + k + 1)

theorem find_hit {zs : List Int} {n i k : Nat} (hk : k < 10) (h1 : i + k < n) (h2 : zs[i + k]?.getD 0 < 128) : find zs n i (10 - k) k = some k := by
  rw [show 10 - k = (9 - k) + 1 by omega, find, if_pos h1, if_pos h2]
theorem find_go {zs : List Int} {n i k : Nat} (hk : k < 10) (h1 : i + k < n) (h2 : 128 ≤ zs[i + k]?.getD 0) : find zs n i (10 - k) k = find zs n i (10 - (k + 1)) (k + 1) := by
  rw [show 10 - k = (10 - (k + 1)) + 1 by omega, find, if_pos h1, if_neg (by omega)]
theorem find_end {zs : List Int} {n i k : Nat} (h1 : n ≤ i + k) : find zs n i (10 - k) k = none := by
  by_cases hk : k < 10
  · rw [show 10 - k = (9 - k) + 1 by omega, find, if_neg (by omega)]
  · rw [show 10 - k = 0 by omega, find]
theorem find_ten {zs : List Int} {n i k : Nat} (h1 : 10 ≤ k) : find zs n i (10 - k) k = none := by
  rw [show 10 - k = 0 by omega, find]

/-- 'v | d << 7k' is a sum, cut at 64 bits. -/
theorem or_step (k : Nat) (hk : k ≤ 9) (V d : Int) (v0 : 0 ≤ V) (v1 : V < 128 ^ k) (d0 : 0 ≤ d) (d1 : d < 128) :
    bits .or .u64 V (IntKind.u64.wrap (d * 2 ^ (7 * k))) = (V + d * 128 ^ k) % 18446744073709551616 := by
  rw [IntKind.wrap_u64]
  have hs : k = 0 ∨ k = 1 ∨ k = 2 ∨ k = 3 ∨ k = 4 ∨ k = 5 ∨ k = 6 ∨ k = 7 ∨ k = 8 ∨ k = 9 := by omega
  rcases hs with rfl | rfl | rfl | rfl | rfl | rfl | rfl | rfl | rfl | rfl
  · have v1' : V < 1 := by simpa using v1
    simp only [Nat.mul_zero, Int.pow_zero]
    rw [u64_orv0 _ _ v0 v1' (by omega) (by omega) (by omega)]; omega
  · have v1' : V < 128 := by simpa using v1
    rw [show (2 : Int) ^ (7 * 1) = 128 by decide, show (128 : Int) ^ 1 = 128 by decide, u64_orv7 _ _ v0 v1' (by omega) (by omega) (by omega)]; omega
  · have v1' : V < 16384 := by simpa using v1
    rw [show (2 : Int) ^ (7 * 2) = 16384 by decide, show (128 : Int) ^ 2 = 16384 by decide, u64_orv14 _ _ v0 v1' (by omega) (by omega) (by omega)]; omega
  · have v1' : V < 2097152 := by simpa using v1
    rw [show (2 : Int) ^ (7 * 3) = 2097152 by decide, show (128 : Int) ^ 3 = 2097152 by decide, u64_orv21 _ _ v0 v1' (by omega) (by omega) (by omega)]; omega
  · have v1' : V < 268435456 := by simpa using v1
    rw [show (2 : Int) ^ (7 * 4) = 268435456 by decide, show (128 : Int) ^ 4 = 268435456 by decide, u64_orv28 _ _ v0 v1' (by omega) (by omega) (by omega)]; omega
  · have v1' : V < 34359738368 := by simpa using v1
    rw [show (2 : Int) ^ (7 * 5) = 34359738368 by decide, show (128 : Int) ^ 5 = 34359738368 by decide, u64_orv35 _ _ v0 v1' (by omega) (by omega) (by omega)]; omega
  · have v1' : V < 4398046511104 := by simpa using v1
    rw [show (2 : Int) ^ (7 * 6) = 4398046511104 by decide, show (128 : Int) ^ 6 = 4398046511104 by decide, u64_orv42 _ _ v0 v1' (by omega) (by omega) (by omega)]; omega
  · have v1' : V < 562949953421312 := by simpa using v1
    rw [show (2 : Int) ^ (7 * 7) = 562949953421312 by decide, show (128 : Int) ^ 7 = 562949953421312 by decide, u64_orv49 _ _ v0 v1' (by omega) (by omega) (by omega)]; omega
  · have v1' : V < 72057594037927936 := by simpa using v1
    rw [show (2 : Int) ^ (7 * 8) = 72057594037927936 by decide, show (128 : Int) ^ 8 = 72057594037927936 by decide, u64_orv56 _ _ v0 v1' (by omega) (by omega) (by omega)]; omega
  · have v1' : V < 9223372036854775808 := by simpa using v1
    rw [show (2 : Int) ^ (7 * 9) = 9223372036854775808 by decide, show (128 : Int) ^ 9 = 9223372036854775808 by decide, u64_orv63 _ _ v0 v1' (by omega) (by omega) (by omega)]; omega

theorem val_lt64 (zs : List Int) (k p : Nat) (hk : k ≤ 9) : val zs k p % 18446744073709551616 = val zs k p := by
  have h := val_bd zs k p
  have h2 : (128 : Int) ^ k ≤ 128 ^ 9 := by
    have := Nat.pow_le_pow_right (n := 128) (by decide) hk
    exact_mod_cast this
  have h3 : (128 : Int) ^ 9 = 9223372036854775808 := by decide
  omega

/-- THE LONG WAY's STEP. -/
theorem long_step (zs : List Int) (k i : Nat) (hk : k ≤ 9) :
    bits .or .u64 (val zs k i % 18446744073709551616) (IntKind.u64.wrap (dig zs (i + k) * 2 ^ (7 * k))) = val zs (k + 1) i % 18446744073709551616 := by
  rw [val_lt64 zs k i hk, or_step k hk _ _ (val_bd zs k i).1 (val_bd zs k i).2 (dig_bd _ _).1 (dig_bd _ _).2, val_snoc]

/-- THE LONG WAY's STEP, as the walk spells it. -/
theorem long_walk {zs : List Int} {k i : Nat} {X : Int} (hk : k ≤ 9) (hX : X = val zs k i % 18446744073709551616) (hr : 0 ≤ zs[i + k]?.getD 0 ∧ zs[i + k]?.getD 0 ≤ 255) :
    bits .or .u64 X (IntKind.u64.wrap (IntKind.u64.wrap (bits .and .u8 (zs[i + k]?.getD 0) 127) * 2 ^ (7 * k))) = val zs (k + 1) i % 18446744073709551616 := by
  have h1 : IntKind.u64.wrap (bits .and .u8 (zs[i + k]?.getD 0) 127) = dig zs (i + k) := by
    rw [u8_and127 _ hr.1 (by omega), IntKind.wrap_u64, dig]; omega
  rw [h1, hX, long_step zs k i hk]

/-- THE FOLD's STEP. -/
theorem fold_step (zs : List Int) (c p : Nat) :
    IntKind.u64.wrap (IntKind.u64.wrap (val zs c (p + 1) % 18446744073709551616 * 128) + dig zs p) = val zs (c + 1) p % 18446744073709551616 := by
  rw [IntKind.wrap_u64, IntKind.wrap_u64, val]
  omega
/-- THE FOLD's STEP, as the walk spells it. -/
theorem fold_walk {zs : List Int} {c p : Nat} {X : Int} (hX : X = val zs c (p + 1) % 18446744073709551616) (hr : 0 ≤ zs[p]?.getD 0 ∧ zs[p]?.getD 0 ≤ 255) :
    IntKind.u64.wrap (IntKind.u64.wrap (X * 128) + IntKind.u64.wrap (bits .and .u8 (zs[p]?.getD 0) 127)) = val zs (c + 1) p % 18446744073709551616 := by
  have h1 : IntKind.u64.wrap (bits .and .u8 (zs[p]?.getD 0) 127) = dig zs p := by
    rw [u8_and127 _ hr.1 (by omega), IntKind.wrap_u64, dig]; omega
  rw [h1, hX, fold_step]
/-- One byte. -/
theorem uv_one {zs : List Int} {n i : Nat} (h : i < n) (hr : 0 ≤ zs[i]?.getD 0) (h1 : zs[i]?.getD 0 < 128) : uv zs n i = (zs[i]?.getD 0, (i : Int) + 1) := by
  have hf : find zs n i 10 0 = some 0 := find_hit (k := 0) (by omega) (by omega) (by simpa using h1)
  rw [uv, hf]
  simp only [val, dig]
  refine Prod.ext ?_ ?_ <;> simp <;> omega
/-- Two bytes. -/
theorem uv_two {zs : List Int} {n i : Nat} (h : i + 1 < n) (hr : 128 ≤ zs[i]?.getD 0) (hr' : 0 ≤ zs[i + 1]?.getD 0) (h1 : zs[i + 1]?.getD 0 < 128) :
    uv zs n i = (zs[i]?.getD 0 % 128 + zs[i + 1]?.getD 0 * 128, (i : Int) + 2) := by
  have hf : find zs n i 10 0 = some 1 := (find_go (k := 0) (by omega) (by omega) (by simpa using hr)).trans (find_hit (k := 1) (by omega) (by omega) (by simpa using h1))
  rw [uv, hf]
  simp only [val, dig]
  refine Prod.ext ?_ ?_ <;> simp <;> omega
end Go.Proofs.Qxb6003262a
