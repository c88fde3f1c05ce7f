/-
  The one text of the record: plain lists.
-/
import Derived.Test.Qxb6603151aSame
import Derived.Laws.Strings2
namespace Go.Proofs.Qxb6603151a
set_option linter.unusedVariables false
open Go.RowKit

/-- The bytes of the first k fields. -/
def doneF (G : Nat → Fd) : Nat → List Int
  | 0 => []
  | k + 1 => doneF G k ++ (G k).zs
/-- The bytes of m fields from field k on. -/
def restF (G : Nat → Fd) : Nat → Nat → List Int
  | k, 0 => []
  | k, m + 1 => (G k).zs ++ restF G (k + 1) m

theorem done_rest (G : Nat → Fd) : ∀ m k, doneF G k ++ restF G k m = doneF G (k + m)
  | 0, k => by simp [restF]
  | m + 1, k => by
    rw [restF, ← List.append_assoc]
    have h := done_rest G m (k + 1)
    rw [doneF] at h
    rw [h]
    congr 1
    omega
theorem done_all (G : Nat → Fd) (n : Nat) : doneF G n = restF G 0 n := by
  have h := done_rest G n 0
  rw [Nat.zero_add] at h
  rw [← h]
  simp [doneF]
theorem done_len (G : Nat → Fd) (n : Nat) (h : ∀ j, j < n → (G j).zs.length ≤ 1048576) : ∀ k, k ≤ n → (doneF G k).length ≤ 1048576 * k
  | 0, _ => by simp [doneF]
  | k + 1, hk => by
    have h1 := done_len G n h k (by omega)
    have h2 := h k (by omega)
    rw [doneF, List.length_append]
    omega
theorem done_byte (G : Nat → Fd) (n : Nat) (h : ∀ j, j < n → ∀ z ∈ (G j).zs, 0 ≤ z ∧ z ≤ 255) : ∀ k, k ≤ n → ∀ z ∈ doneF G k, 0 ≤ z ∧ z ≤ 255
  | 0, _ => by simp [doneF]
  | k + 1, hk => by
    intro z hz
    rw [doneF, List.mem_append] at hz
    rcases hz with hz | hz
    · exact done_byte G n h k (by omega) z hz
    · exact h k (by omega) z hz
theorem byte_mem {zs : List Int} (h : ∀ j : Nat, 0 ≤ zs[j]?.getD 0 ∧ zs[j]?.getD 0 ≤ 255) : ∀ z ∈ zs, 0 ≤ z ∧ z ≤ 255 := by
  intro z hz
  obtain ⟨j, hj, rfl⟩ := List.getElem_of_mem hz
  have := h j
  simpa [hj] using this

theorem strOf_left (xs ys : List Int) : (strOf (xs ++ ys)).extract 0 xs.length = strOf xs := by
  rw [strOf, ByteArray.extract_mk]
  simp [strOf]
theorem strOf_right (xs ys : List Int) : (strOf (xs ++ ys)).extract xs.length (strOf (xs ++ ys)).size = strOf ys := by
  rw [strOf_size]
  rw [strOf, ByteArray.extract_mk]
  simp [strOf]
  rw [List.take_of_length_le (by simp)]
end Go.Proofs.Qxb6603151a
