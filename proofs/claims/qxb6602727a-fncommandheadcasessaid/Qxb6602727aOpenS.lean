/-
  A slice of strings that came in, opened.
-/
import Derived.Test.Qxb6602727aRows
import Derived.Test.Qxb6602727aCmdClone
import Derived.ProofKit
import Derived.OpenShut
import Derived.ChangeOld
import Derived.Deep.Slices
namespace Go.Proofs.Qxb6602727a
open Go.ChangeShapes Go.WideShapes Go.ChangeAt Go.RowKit Go.Deep
set_option linter.unusedVariables false

theorem Try.cells9 : Try.prog.cellsOf 9 = 1 := by kernel_rfl

theorem open_strings {H : Type} {enc : TypeId × Value → H} {w : World} {fuel : Nat} {spare : Nat → Bool} {held : Bool} {a : Option Addr} {len cap : Nat} {x : DataW H × List MemPlace}
    (h : DataW.trod enc Try.prog w 0 spare held fuel 22 [.slice a len cap] = some x) :
    ∃ S : Nat → ByteArray, (a = none → len = 0 ∧ cap = 0) ∧ SRow w a len S := by
  rcases open_slice1 Try.underlying22 Try.cells9 h with ⟨hcs, _⟩ | ⟨a', len', cap', m, n, V, D, Pl, hcs, _, hl, hm, hmm, _, hx⟩
  · simp at hcs
    obtain ⟨rfl, rfl, rfl⟩ := hcs
    exact ⟨fun _ => ⟨#[]⟩, fun _ => ⟨rfl, rfl⟩, by omega, fun _ => by simp [ByteArray.size], .inl rfl⟩
  · simp at hcs
    obtain ⟨rfl, rfl, rfl⟩ := hcs
    unfold maxLen at hm
    have hlm : len ≤ m := by rw [hmm]; split <;> omega
    by_cases hz : len = 0
    · exact ⟨fun _ => ⟨#[]⟩, (fun h => by cases h), by omega, (fun _ => by simp [ByteArray.size]), .inl hz⟩
    obtain ⟨b, off, spot⟩ := a'
    have hstr : ∀ i, i < len → ∃ s : ByteArray, w.cell? (Addr.add ⟨b, off, spot⟩ i) = some (.string s) ∧ s.size ≤ 9223372036854775807 := fun i hi => by
      obtain ⟨h1, h2⟩ := hx i (by omega)
      obtain ⟨s, e, _, hs⟩ := DataW.trod_string Try.underlying9 h2
      simp at e
      rw [e] at h1
      exact ⟨s, h1, by unfold maxLen at hs; omega⟩
    have hspot : spot = none := by
      obtain ⟨s, h1, _⟩ := hstr 0 (by omega)
      simpa [Addr.add] using World.cell?_spot h1
    subst hspot
    have hI : Inhabited ByteArray := ⟨⟨#[]⟩⟩
    obtain ⟨T, hT⟩ := choose_lt (α := ByteArray) (n := len) (p := fun i s => w.cell? ⟨b, off + i, none⟩ = some (.string s) ∧ s.size ≤ 9223372036854775807) (fun i hi => by
      obtain ⟨s, h1, h2⟩ := hstr i hi
      exact ⟨s, by rw [← h1, add_plain], h2⟩)
    refine ⟨fun j => if j < len then T j else ⟨#[]⟩, (fun h => by cases h), by omega, fun j => ?_, .inr ⟨b, off, rfl, fun j hj => ?_⟩⟩
    · show (if j < len then T j else ⟨#[]⟩ : ByteArray).size ≤ _
      split
      · rename_i h; exact (hT j h).2
      · simp [ByteArray.size]
    · show _ = some (Value.string (if j < len then T j else ⟨#[]⟩))
      rw [if_pos hj]
      exact (hT j hj).1
end Go.Proofs.Qxb6602727a
