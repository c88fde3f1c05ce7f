/-
  The plain functions: what command computes, what the two-pass model computes, and that they agree.
-/
import Derived.Lib.Strings
namespace Go.Proofs.Qxb6602727a
set_option linter.unusedVariables false

/-- The string is "-c" or "-C". -/
def pass (s : ByteArray) : Bool := (s.toList == [45, 99]) || (s.toList == [45, 67])
/-- The string opens with '-'. -/
def dash (s : ByteArray) : Bool := Lib.hasPrefix s.data.toList [45]

def cmdF (S : Nat → ByteArray) (n : Nat) : Nat → Nat → ByteArray
  | 0, _ => ⟨#[]⟩
  | f + 1, i => if i < n then (if pass (S i) then cmdF S n f (i + 2) else if dash (S i) then cmdF S n f (i + 1) else S i) else ⟨#[]⟩
def val (S : Nat → ByteArray) : Nat → Bool
  | 0 => false
  | j + 1 => !val S j && pass (S j)
def modF (S : Nat → ByteArray) (n : Nat) : Nat → Nat → ByteArray
  | 0, _ => ⟨#[]⟩
  | f + 1, i => if i < n then (if val S i then modF S n f (i + 1) else if dash (S i) then modF S n f (i + 1) else S i) else ⟨#[]⟩

theorem cmdF_end (S : Nat → ByteArray) (n : Nat) : ∀ (f i : Nat), n ≤ i → cmdF S n f i = ⟨#[]⟩
  | 0, i => fun _ => rfl
  | f + 1, i => fun h => by rw [cmdF, if_neg (by omega)]
theorem modF_end (S : Nat → ByteArray) (n : Nat) : ∀ (f i : Nat), n ≤ i → modF S n f i = ⟨#[]⟩
  | 0, i => fun _ => rfl
  | f + 1, i => fun h => by rw [modF, if_neg (by omega)]
theorem cmdF_pass {S : Nat → ByteArray} {n f i : Nat} (h : i < n) (hp : pass (S i) = true) : cmdF S n (f + 1) i = cmdF S n f (i + 2) := by
  rw [cmdF, if_pos h, if_pos hp]
theorem cmdF_dash {S : Nat → ByteArray} {n f i : Nat} (h : i < n) (hp : pass (S i) = false) (hd : dash (S i) = true) : cmdF S n (f + 1) i = cmdF S n f (i + 1) := by
  rw [cmdF, if_pos h, if_neg (by simp [hp]), if_pos hd]
theorem cmdF_hit {S : Nat → ByteArray} {n f i : Nat} (h : i < n) (hp : pass (S i) = false) (hd : dash (S i) = false) : cmdF S n (f + 1) i = S i := by
  rw [cmdF, if_pos h, if_neg (by simp [hp]), if_neg (by simp [hd])]
theorem modF_val {S : Nat → ByteArray} {n f i : Nat} (h : i < n) (hp : val S i = true) : modF S n (f + 1) i = modF S n f (i + 1) := by
  rw [modF, if_pos h, if_pos hp]
theorem modF_dash {S : Nat → ByteArray} {n f i : Nat} (h : i < n) (hp : val S i = false) (hd : dash (S i) = true) : modF S n (f + 1) i = modF S n f (i + 1) := by
  rw [modF, if_pos h, if_neg (by simp [hp]), if_pos hd]
theorem modF_hit {S : Nat → ByteArray} {n f i : Nat} (h : i < n) (hp : val S i = false) (hd : dash (S i) = false) : modF S n (f + 1) i = S i := by
  rw [modF, if_pos h, if_neg (by simp [hp]), if_neg (by simp [hd])]

theorem pass_dash {s : ByteArray} (h : pass s = true) : dash s = true := by
  unfold pass at h
  simp only [Bool.or_eq_true, beq_iff_eq, Lib.toList_data] at h
  unfold dash
  rcases h with h | h <;> rw [h] <;> decide

theorem agree (S : Nat → ByteArray) (n : Nat) : ∀ (f g i : Nat), n ≤ f + i → n ≤ g + i → val S i = false → cmdF S n f i = modF S n g i
  | 0, g, i => fun h1 h2 hv => by rw [cmdF_end S n 0 i (by omega), modF_end S n g i (by omega)]
  | f + 1, 0, i => fun h1 h2 hv => by rw [cmdF_end S n _ i (by omega), modF_end S n 0 i (by omega)]
  | f + 1, g + 1, i => fun h1 h2 hv => by
    by_cases hi : i < n
    · cases hp : pass (S i)
      · cases hd : dash (S i)
        · rw [cmdF_hit hi hp hd, modF_hit hi hv hd]
        · rw [cmdF_dash hi hp hd, modF_dash hi hv hd]
          exact agree S n f g (i + 1) (by omega) (by omega) (by rw [val, hp, Bool.and_false])
      · rw [cmdF_pass hi hp, modF_dash hi hv (pass_dash hp)]
        have h1v : val S (i + 1) = true := by rw [val, hv, hp]; rfl
        by_cases hi1 : i + 1 < n
        · obtain ⟨g', rfl⟩ : ∃ g', g = g' + 1 := ⟨g - 1, by omega⟩
          rw [modF_val hi1 h1v]
          exact agree S n f g' (i + 2) (by omega) (by omega) (by rw [val, h1v]; rfl)
        · rw [cmdF_end S n _ _ (by omega), modF_end S n _ _ (by omega)]
    · rw [cmdF_end S n _ i (by omega), modF_end S n _ i (by omega)]
end Go.Proofs.Qxb6602727a
