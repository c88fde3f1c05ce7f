/-
  A slice of strings and a record of byte fields that came in, opened.
-/
import Derived.Test.Qxb6603151aRows
import Derived.Test.Qxb6603151aCounts
import Derived.ProofKit
import Derived.OpenShut
import Derived.ChangeOld
import Derived.Deep.Slices
namespace Go.Proofs.Qxb6603151a
open Go.ChangeShapes Go.WideShapes Go.ChangeAt Go.RowKit Go.Deep
set_option linter.unusedVariables false

theorem Try.cells9 : Try.prog.cellsOf 9 = 1 := by kernel_rfl
theorem Try.cells41 : Try.prog.cellsOf 41 = 1 := by kernel_rfl
theorem Try.cells5 : Try.prog.cellsOf 5 = 1 := by kernel_rfl

theorem open_strings {H : Type} {enc : TypeId × Value → H} {w : World} {fuel : Nat} {spare : Nat → Bool} {held : Bool} {a : Option Addr} {len cap : Nat} {x : DataW H × List MemPlace}
    (h : DataW.trod enc Try.prog w 0 spare held fuel 22 [.slice a len cap] = some x) :
    ∃ S : Nat → ByteArray, (a = none → len = 0 ∧ cap = 0) ∧ SRow w a len S := by
  rcases open_slice1 Try.underlying22 Try.cells9 h with ⟨hcs, _⟩ | ⟨a', len', cap', m, n, V, D, Pl, hcs, _, hl, hm, hmm, _, hx⟩
  · simp at hcs
    obtain ⟨rfl, rfl, rfl⟩ := hcs
    exact ⟨fun _ => ⟨#[]⟩, fun _ => ⟨rfl, rfl⟩, by omega, fun _ => by simp [ByteArray.size], .inl rfl⟩
  · simp at hcs
    obtain ⟨rfl, rfl, rfl⟩ := hcs
    unfold maxLen at hm
    have hlm : len ≤ m := by rw [hmm]; split <;> omega
    by_cases hz : len = 0
    · exact ⟨fun _ => ⟨#[]⟩, (fun h => by cases h), by omega, (fun _ => by simp [ByteArray.size]), .inl hz⟩
    obtain ⟨b, off, spot⟩ := a'
    have hstr : ∀ i, i < len → ∃ s : ByteArray, w.cell? (Addr.add ⟨b, off, spot⟩ i) = some (.string s) ∧ s.size ≤ 9223372036854775807 := fun i hi => by
      obtain ⟨h1, h2⟩ := hx i (by omega)
      obtain ⟨s, e, _, hs⟩ := DataW.trod_string Try.underlying9 h2
      simp at e
      rw [e] at h1
      exact ⟨s, h1, by unfold maxLen at hs; omega⟩
    have hspot : spot = none := by
      obtain ⟨s, h1, _⟩ := hstr 0 (by omega)
      simpa [Addr.add] using World.cell?_spot h1
    subst hspot
    have hI : Inhabited ByteArray := ⟨⟨#[]⟩⟩
    obtain ⟨T, hT⟩ := choose_lt (α := ByteArray) (n := len) (p := fun i s => w.cell? ⟨b, off + i, none⟩ = some (.string s) ∧ s.size ≤ 9223372036854775807) (fun i hi => by
      obtain ⟨s, h1, h2⟩ := hstr i hi
      exact ⟨s, by rw [← h1, add_plain], h2⟩)
    refine ⟨fun j => if j < len then T j else ⟨#[]⟩, (fun h => by cases h), by omega, fun j => ?_, .inr ⟨b, off, rfl, fun j hj => ?_⟩⟩
    · show (if j < len then T j else ⟨#[]⟩ : ByteArray).size ≤ _
      split
      · rename_i h; exact (hT j h).2
      · simp [ByteArray.size]
    · show _ = some (Value.string (if j < len then T j else ⟨#[]⟩))
      rw [if_pos hj]
      exact (hT j hj).1

theorem open_field {H : Type} {enc : TypeId × Value → H} {w : World} {fuel : Nat} {spare : Nat → Bool} {held : Bool} {v : Value} {x : DataW H × List MemPlace}
    (h : DataW.trod enc Try.prog w 0 spare held fuel 41 [v] = some x) : ∃ f : Fd, v = .slice f.a f.n f.c ∧ FIn w f := by
  rcases open_slice1 Try.underlying41 Try.cells5 h with ⟨hcs, _⟩ | ⟨a', len', cap', m, n, V, D, Pl, hcs, _, hl, hm, hmm, _, hx⟩
  · simp at hcs
    subst hcs
    exact ⟨⟨none, 0, 0, []⟩, rfl, rfl, by simp, by simp, fun _ => ⟨rfl, rfl⟩, .inl rfl⟩
  · simp at hcs
    subst hcs
    unfold maxLen at hm
    have hlm : len' ≤ m := by rw [hmm]; split <;> omega
    by_cases hz : len' = 0
    · subst hz
      exact ⟨⟨some a', 0, cap', []⟩, rfl, rfl, by simp, by simp, (fun h => by cases h), .inl rfl⟩
    obtain ⟨b, off, spot⟩ := a'
    have hb : ∀ i, i < len' → ∃ z : Int, w.cell? (Addr.add ⟨b, off, spot⟩ i) = some (.int .u8 z) ∧ 0 ≤ z ∧ z ≤ 255 := fun i hi => by
      obtain ⟨h1, h2⟩ := hx i (by omega)
      obtain ⟨z, e, _, hw⟩ := DataW.trod_int Try.underlying5 h2
      simp at e
      rw [e] at h1
      exact ⟨z, h1, bounds_u8 hw⟩
    have hspot : spot = none := by
      obtain ⟨s, h1, _⟩ := hb 0 (by omega)
      simpa [Addr.add] using World.cell?_spot h1
    subst hspot
    obtain ⟨T, hT⟩ := choose_lt (α := Int) (n := len') (p := fun i z => w.cell? ⟨b, off + i, none⟩ = some (.int .u8 z) ∧ 0 ≤ z ∧ z ≤ 255) (fun i hi => by
      obtain ⟨s, h1, h2⟩ := hb i hi
      exact ⟨s, by rw [← h1, add_plain], h2⟩)
    have hg : ∀ j, j < len' → ((List.range len').map T)[j]?.getD 0 = T j := fun j hj => by simp [hj]
    refine ⟨⟨some ⟨b, off, none⟩, len', cap', (List.range len').map T⟩, rfl, by simp, (by show len' ≤ _; omega), fun j => ?_, (fun h => by cases h), .inr ⟨b, off, rfl, fun j hj => ?_⟩⟩
    · by_cases hj : j < len'
      · rw [hg j hj]; exact (hT j hj).2
      · simp [hj]
    · show _ = some (Value.int .u8 (((List.range len').map T)[j]?.getD 0))
      rw [hg j hj]
      exact (hT j hj).1

theorem open_record {H : Type} {enc : TypeId × Value → H} {w : World} {fuel : Nat} {spare : Nat → Bool} {held : Bool} {a : Option Addr} {len cap : Nat} {x : DataW H × List MemPlace}
    (h : DataW.trod enc Try.prog w 0 spare held fuel 35 [.slice a len cap] = some x) :
    ∃ F : Nat → Fd, (a = none → len = 0 ∧ cap = 0) ∧ RRow w a len F := by
  rcases open_slice1 Try.underlying35 Try.cells41 h with ⟨hcs, _⟩ | ⟨a', len', cap', m, n, V, D, Pl, hcs, _, hl, hm, hmm, _, hx⟩
  · simp at hcs
    obtain ⟨rfl, rfl, rfl⟩ := hcs
    exact ⟨fun _ => ⟨none, 0, 0, []⟩, fun _ => ⟨rfl, rfl⟩, by omega, .inl rfl, fun j hj => by omega⟩
  · simp at hcs
    obtain ⟨rfl, rfl, rfl⟩ := hcs
    unfold maxLen at hm
    have hlm : len ≤ m := by rw [hmm]; split <;> omega
    by_cases hz : len = 0
    · exact ⟨fun _ => ⟨none, 0, 0, []⟩, (fun h => by cases h), by omega, .inl hz, fun j hj => by omega⟩
    obtain ⟨b, off, spot⟩ := a'
    have hfd : ∀ i, i < len → ∃ f : Fd, w.cell? (Addr.add ⟨b, off, spot⟩ i) = some (.slice f.a f.n f.c) ∧ FIn w f := fun i hi => by
      obtain ⟨h1, h2⟩ := hx i (by omega)
      obtain ⟨f, e, hf⟩ := open_field h2
      rw [e] at h1
      exact ⟨f, h1, hf⟩
    have hspot : spot = none := by
      obtain ⟨s, h1, _⟩ := hfd 0 (by omega)
      simpa [Addr.add] using World.cell?_spot h1
    subst hspot
    have hI : Inhabited Fd := ⟨⟨none, 0, 0, []⟩⟩
    obtain ⟨T, hT⟩ := choose_lt (α := Fd) (n := len) (p := fun i f => w.cell? ⟨b, off + i, none⟩ = some (.slice f.a f.n f.c) ∧ FIn w f) (fun i hi => by
      obtain ⟨s, h1, h2⟩ := hfd i hi
      exact ⟨s, by rw [← h1, add_plain], h2⟩)
    exact ⟨T, (fun h => by cases h), by omega, .inr ⟨b, off, rfl, fun j hj => (hT j hj).1⟩, fun j hj => (hT j hj).2⟩
end Go.Proofs.Qxb6603151a
