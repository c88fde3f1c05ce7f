/-
  Plain mathematics of the record: the varint's bytes, what reads them back, the zig-zag.
-/
import Derived.Test.Qxb6003262aVarPlain
import Derived.Lib.Zigzag
namespace Go.Proofs.Qxb6003262a
set_option linter.unusedVariables false

/-- The bytes of v, with fuel. -/
def enc : Nat → Nat → List Int
  | 0, v => [(v : Int)]
  | f + 1, v => if v < 128 then [(v : Int)] else ((v % 128 + 128 : Nat) : Int) :: enc f (v / 128)

theorem enc_small {f v : Nat} (h : v < 128) : enc f v = [(v : Int)] := by
  cases f with
  | zero => rfl
  | succ f => rw [enc, if_pos h]
theorem enc_big {f v : Nat} (h : 128 ≤ v) : enc (f + 1) v = ((v % 128 + 128 : Nat) : Int) :: enc f (v / 128) := by rw [enc, if_neg (by omega)]
theorem enc_len : ∀ (f v : Nat), 1 ≤ (enc f v).length ∧ (enc f v).length ≤ f + 1
  | 0, v => by simp [enc]
  | f + 1, v => by
    by_cases h : v < 128
    · rw [enc_small h]; simp
    · rw [enc_big (by omega)]
      have := enc_len f (v / 128)
      simp; omega
theorem enc_bd : ∀ (f v : Nat), v < 128 ^ (f + 1) → ∀ x ∈ enc f v, 0 ≤ x ∧ x ≤ 255
  | 0, v => fun h x hx => by
    simp only [enc, List.mem_singleton] at hx
    have : (128 : Nat) ^ (0 + 1) = 128 := rfl
    omega
  | f + 1, v => fun h x hx => by
    by_cases hv : v < 128
    · rw [enc_small hv, List.mem_singleton] at hx
      omega
    · rw [enc_big (by omega), List.mem_cons] at hx
      rcases hx with rfl | hx
      · omega
      · exact enc_bd f (v / 128) (by rw [Nat.pow_succ] at h; exact Nat.div_lt_of_lt_mul (by rw [Nat.mul_comm]; exact h)) x hx

/-- zs bears l at place p. -/
def At (zs : List Int) (p : Nat) (l : List Int) : Prop := ∀ j, j < l.length → zs[p + j]? = l[j]?

theorem At.cons {zs : List Int} {p : Nat} {x : Int} {l : List Int} (h : At zs p (x :: l)) : zs[p]?.getD 0 = x ∧ At zs (p + 1) l := by
  refine ⟨by have := h 0 (by simp); simp at this; simp [this], fun j hj => ?_⟩
  have := h (j + 1) (by simpa using hj)
  rw [show p + 1 + j = p + (j + 1) by omega, this]
  simp

theorem find_enc (zs : List Int) (n i : Nat) : ∀ (f v k : Nat), v < 128 ^ (f + 1) → At zs (i + k) (enc f v) → i + k + (enc f v).length ≤ n →
    find zs n i (f + 1) k = some (k + (enc f v).length - 1) ∧ val zs (enc f v).length (i + k) = (v : Int)
  | 0, v, k => fun h ha hn => by
    have hv : v < 128 := by simpa using h
    rw [enc_small hv] at ha hn ⊢
    have h0 := ha.cons.1
    simp only [List.length_singleton] at hn ⊢
    refine ⟨by rw [find, if_pos (by omega), if_pos (by omega)]; simp, ?_⟩
    simp only [val, dig, h0]; omega
  | f + 1, v, k => fun h ha hn => by
    by_cases hv : v < 128
    · rw [enc_small hv] at ha hn ⊢
      have h0 := ha.cons.1
      simp only [List.length_singleton] at hn ⊢
      refine ⟨by rw [find, if_pos (by omega), if_pos (by omega)]; simp, ?_⟩
      simp only [val, dig, h0]; omega
    · have hb : enc (f + 1) v = _ := enc_big (f := f) (by omega : 128 ≤ v)
      rw [hb] at ha hn ⊢
      obtain ⟨h0, h1⟩ := ha.cons
      simp only [List.length_cons] at hn ⊢
      have ih := find_enc zs n i f (v / 128) (k + 1) (by rw [Nat.pow_succ] at h; exact Nat.div_lt_of_lt_mul (by rw [Nat.mul_comm]; exact h)) (by rw [← Nat.add_assoc]; exact h1) (by omega)
      have hl := (enc_len f (v / 128)).1
      refine ⟨?_, ?_⟩
      · rw [find, if_pos (by omega), if_neg (by rw [h0]; omega), ih.1]
        congr 1; omega
      · rw [val, show i + k + 1 = i + (k + 1) by omega, ih.2, dig, h0]
        omega

/-- WHAT WAS WRITTEN IS READ BACK. -/
theorem uv_enc {zs : List Int} {n i v : Nat} (hv : v < 18446744073709551616) (ha : At zs i (enc 9 v)) (hn : i + (enc 9 v).length ≤ n) :
    uv zs n i = ((v : Int), ((i + (enc 9 v).length : Nat) : Int)) := by
  have h := find_enc zs n i 9 v 0 (by have : (128 : Nat) ^ (9 + 1) = 1180591620717411303424 := by decide
                                      omega) (by simpa using ha) (by simpa using hn)
  have hl := (enc_len 9 v).1
  rw [uv, h.1]
  have e : 0 + (enc 9 v).length - 1 + 1 = (enc 9 v).length := by omega
  simp only [e]
  rw [show i = i + 0 from rfl, h.2]
  refine Prod.ext ?_ ?_ <;> simp <;> omega

/-- The zig-zag as the law writes it. -/
def zz (d : Int) : Nat := if 0 ≤ d then (d * 2).toNat else ((-(d + 1)) * 2 + 1).toNat
theorem zz_lt {d : Int} (h0 : -9223372036854775808 ≤ d) (h1 : d ≤ 9223372036854775807) : zz d < 18446744073709551616 := by unfold zz; split <;> omega

theorem i64_xor_neg (x : Nat) (hx : x < 9223372036854775808) : bits .xor .i64 (x : Int) (-1) = -(x : Int) - 1 := by
  show IntKind.i64.wrap ((BitVec.ofInt 64 (x : Int) ^^^ BitVec.ofInt 64 (-1)).toNat : Int) = _
  have h1 : (BitVec.ofInt 64 (-1)).toNat = 2 ^ 64 - 1 := by decide
  have h2 : (BitVec.ofInt 64 (x : Int)).toNat = x := by
    rw [BitVec.ofInt_natCast, BitVec.toNat_ofNat]; exact Nat.mod_eq_of_lt (by omega)
  rw [BitVec.toNat_xor, h1, h2, Nat.xor_comm, Lib.xor_ones64 x (by omega), IntKind.wrap_i64]
  omega
theorem i64_xor_zero (x : Nat) (hx : x < 9223372036854775808) : bits .xor .i64 (x : Int) 0 = (x : Int) := by
  show IntKind.i64.wrap ((BitVec.ofInt 64 (x : Int) ^^^ BitVec.ofInt 64 0).toNat : Int) = _
  have h2 : (BitVec.ofInt 64 (x : Int)).toNat = x := by
    rw [BitVec.ofInt_natCast, BitVec.toNat_ofNat]; exact Nat.mod_eq_of_lt (by omega)
  have h1 : (BitVec.ofInt 64 0).toNat = 0 := by decide
  rw [BitVec.toNat_xor, h2, h1, Nat.xor_zero, IntKind.wrap_i64]
  omega
end Go.Proofs.Qxb6003262a
