/-
  strings.Builder: copyCheck and Write, walked in this program.
-/
import Derived.Test.Qxb6603151aShelf
import Derived.Lib.Builder
import Derived.WalkKit
import Derived.WalkSpells
namespace Go.Proofs.Qxb6603151a
set_option linter.unusedVariables false
open Go.RowKit

theorem Try.info50 : (Try.prog.info? 50).map (fun i => i.size) = some 2 := by kernel_rfl

theorem lies50 : liesAt Try.prog Try.prog.depth 50 (2 / Try.prog.cellsOf 50) 0 50 1 = true := by kernel_rfl

/-- A pointer to the builder, turned to a pointer of no type. -/
theorem turn_to (b : Nat) (w : World) (hsh : w.shape? b = some (50, 2)) :
    (convert 48 59 (.pointer (some ⟨b, 0, none⟩))).run Try.prog w = .ok (.pointer (some ⟨b, 0, none⟩)) w := by
  obtain ⟨j, hj, hjs⟩ := Option.map_eq_some_iff.1 Try.info50
  simp only [convert, Sem.run_bind, run_underlying Try.underlying48, run_underlying Try.underlying59, Result.andThen_ok]
  show Sem.run _ (bind (underlying 48) _) _ = _
  simp [run_underlying Try.underlying48, run_underlying Try.underlying59, Conv.seenAt, viewAt, cellsIn, hsh, sizeOf, typeInfo, hj, hjs]
/-- .. and back. -/
theorem turn_from (b : Nat) (w : World) (hsh : w.shape? b = some (50, 2)) :
    (convert 59 48 (.pointer (some ⟨b, 0, none⟩))).run Try.prog w = .ok (.pointer (some ⟨b, 0, none⟩)) w := by
  obtain ⟨j, hj, hjs⟩ := Option.map_eq_some_iff.1 Try.info50
  simp only [convert, Sem.run_bind, run_underlying Try.underlying48, run_underlying Try.underlying59, Result.andThen_ok]
  show Sem.run _ (bind (underlying 59) _) _ = _
  simp [run_underlying Try.underlying48, run_underlying Try.underlying59, Conv.seenAt, viewAt, hsh, variablesAt, lies50, sizeOf, typeInfo, hj]

set_option maxHeartbeats 1000000 in
theorem check_used (b : Nat) (w : World) (h0 : w.cell? ⟨b, 0, none⟩ = some (.pointer (some ⟨b, 0, none⟩))) :
    Calls Try.prog 31 #[.pointer (some ⟨b, 0, none⟩)] w fun e w' => e = .returned (.tuple #[]) ∧ w' = w := by
  obtain ⟨j, hj, _⟩ := Option.map_eq_some_iff.1 Try.info50
  go_enter Try.func31, Try.ntmps31
  go_wp2
  rw [Lib.run_neq_ptr_same w _ Try.underlying48 hj]
  go_wp2
  go_end0
  exact ⟨rfl, rfl⟩

set_option maxHeartbeats 1000000 in
theorem check_fresh (b : Nat) (w : World) (h0 : w.cell? ⟨b, 0, none⟩ = some (.pointer none)) (hsh : w.shape? b = some (50, 2)) (hfz : w.frozen? ⟨b, 0, none⟩ = false) :
    Calls Try.prog 31 #[.pointer (some ⟨b, 0, none⟩)] w fun e w' => e = .returned (.tuple #[]) ∧ w' = w.setCell ⟨b, 0, none⟩ (.pointer (some ⟨b, 0, none⟩)) := by
  go_enter Try.func31, Try.ntmps31
  go_wp2
  rw [turn_to b w hsh]
  simp only [Result.andThen]
  rw [Oper.upon_value]
  go_wp2
  rw [run_callFunc_extern Try.func32 (by kernel_rfl) (by kernel_rfl) (by kernel_rfl) (e := Extern.AbiNoEscape.same) (by kernel_rfl)]
  rw [Lib.run_noEscape]
  simp only [Result.andThen]
  rw [Oper.upon_value]
  go_wp2
  rw [turn_from b w hsh]
  simp only [Result.andThen]
  rw [Oper.upon_value]
  go_wp2
  go_end0
  exact ⟨rfl, rfl⟩

theorem check (B b : Nat) (bs : List Value) (w : World) (h : Lib.IsBuilder 50 5 B b bs w) :
    Calls Try.prog 31 #[.pointer (some ⟨b, 0, none⟩)] w fun e w' => e = .returned (.tuple #[]) ∧ (Lib.BuilderAt 50 5 B b (.pointer (some ⟨b, 0, none⟩)) bs w' ∧ Below B w w') := by
  rcases h with h | h
  · refine (check_fresh b w h.cell0 h.shape h.frozen0).mono ?_
    rintro e w' ⟨rfl, rfl⟩
    exact ⟨rfl, h.used _, (Below.refl B w).setCell (p := ⟨b, 0, none⟩) h.1 _⟩
  · refine (check_used b w h.cell0).mono ?_
    rintro e w' ⟨rfl, rfl⟩
    exact ⟨rfl, h, Below.refl B _⟩
end Go.Proofs.Qxb6603151a
