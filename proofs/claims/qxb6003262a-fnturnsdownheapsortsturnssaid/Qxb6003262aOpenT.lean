/-
  A slice of turns that came in, opened.
-/
import Derived.Test.Qxb6003262aRows
import Derived.Test.Qxb6003262aZDown
import Derived.ProofKit
import Derived.OpenShut
import Derived.ChangeOld
import Derived.Deep.Slices
namespace Go.Proofs.Qxb6003262a
open Go.ChangeShapes Go.WideShapes Go.ChangeAt Go.RowKit Go.Deep
set_option linter.unusedVariables false

theorem Try.cells45 : Try.prog.cellsOf 45 = 4 := by kernel_rfl
theorem Try.cells2 : Try.prog.cellsOf 2 = 1 := by kernel_rfl
theorem Try.cells21 : Try.prog.cellsOf 21 = 1 := by kernel_rfl
theorem Try.cells3 : Try.prog.cellsOf 3 = 1 := by kernel_rfl

theorem open_turn {H : Type} {enc : TypeId × Value → H} {w : World} {base fuel : Nat} {spare : Nat → Bool} {held : Bool} {cs : List Value} {x : DataW H × List MemPlace} (hl : cs.length = 4)
    (h : DataW.trod enc Try.prog w base spare held fuel 45 cs = some x) : ∃ t : Tn, cs = [.int .i64 t.s, .int .i32 t.n, .int .i64 t.r, .int .i64 t.u] := by
  obtain ⟨xs, n, _, _, _, hlen, hfs⟩ := DataW.trod_struct Try.underlying45 h
  match cs, hl with
  | [x0, x1, x2, x3], _ =>
    match xs, hlen with
    | [y0, y1, y2, y3], _ =>
      have h0 := hfs 0 _ rfl
      have h1 := hfs 1 _ rfl
      have h2 := hfs 2 _ rfl
      have h3 := hfs 3 _ rfl
      simp [Try.cells2, Try.cells3, Try.cells21] at h0 h1 h2 h3
      obtain ⟨c0, e0, _, w0⟩ := DataW.trod_int Try.underlying2 h0
      obtain ⟨c1, e1, _, w1⟩ := DataW.trod_int Try.underlying21 h1
      obtain ⟨c2, e2, _, w2⟩ := DataW.trod_int Try.underlying3 h2
      obtain ⟨c3, e3, _, w3⟩ := DataW.trod_int Try.underlying3 h3
      simp at e0 e1 e2 e3
      subst e0 e1 e2 e3
      exact ⟨⟨c0, c1, c2, c3⟩, rfl⟩

theorem open_turns {H : Type} {enc : TypeId × Value → H} {w : World} {fuel : Nat} {spare : Nat → Bool} {held : Bool} {a : Option Addr} {len cap : Nat} {x : DataW H × List MemPlace}
    (h : DataW.trod enc Try.prog w 0 spare held fuel 38 [.slice a len cap] = some x) :
    ∃ q : List Tn, q.length = len ∧ (a = none → len = 0 ∧ cap = 0) ∧ (len = 0 ∨ ∃ b off, a = some ⟨b, off, none⟩ ∧ TRow w b off q) := by
  rcases open_slice Try.underlying38 h with ⟨hcs, _⟩ | ⟨a', len', cap', m, n, D, Pl, hcs, _, hl, hm, hmm, _, hx⟩
  · simp at hcs
    obtain ⟨rfl, rfl, rfl⟩ := hcs
    exact ⟨[], rfl, fun _ => ⟨rfl, rfl⟩, .inl rfl⟩
  · simp at hcs
    obtain ⟨rfl, rfl, rfl⟩ := hcs
    rw [Try.cells45] at hx
    have hlm : len ≤ m := by rw [hmm]; split <;> omega
    by_cases hz : len = 0
    · exact ⟨[], hz.symm, (fun h => by cases h), .inl hz⟩
    · obtain ⟨b, off, spot⟩ := a'
      have hspot : spot = none := by
        obtain ⟨cs', h1, h2⟩ := hx 0 (by omega)
        obtain ⟨_, hlen, hcell⟩ := World.cells?_some h1
        obtain ⟨t, rfl⟩ := open_turn hlen h2
        have := hcell 0 (by omega)
        simpa [Addr.add] using World.cell?_spot this
      subst hspot
      have hI : Inhabited Tn := ⟨t0⟩
      obtain ⟨T, hT⟩ := choose_lt (α := Tn) (n := len) (p := fun i t => w.cell? ⟨b, off + i * 4, none⟩ = some (.int .i64 t.s) ∧ w.cell? ⟨b, off + i * 4 + 1, none⟩ = some (.int .i32 t.n) ∧ w.cell? ⟨b, off + i * 4 + 2, none⟩ = some (.int .i64 t.r) ∧ w.cell? ⟨b, off + i * 4 + 3, none⟩ = some (.int .i64 t.u)) (fun i hi => by
        obtain ⟨cs', h1, h2⟩ := hx i (by omega)
        obtain ⟨_, hlen, hcell⟩ := World.cells?_some h1
        obtain ⟨t, rfl⟩ := open_turn hlen h2
        have hc : ∀ j, j < 4 → w.cell? ⟨b, off + i * 4 + j, none⟩ = ([.int .i64 t.s, .int .i32 t.n, .int .i64 t.r, .int .i64 t.u] : List Value)[j]? := fun j hj => by
          rw [← hcell j hj, add_plain, add_plain]
        exact ⟨t, hc 0 (by omega), hc 1 (by omega), hc 2 (by omega), hc 3 (by omega)⟩)
      refine ⟨(List.range len).map T, by simp, (fun h => by cases h), .inr ⟨b, off, rfl, fun j hj => ?_⟩⟩
      have hj' : j < len := by simpa using hj
      have e : gt ((List.range len).map T) j = T j := by unfold gt; simp [hj']
      rw [e]
      exact hT j hj'
end Go.Proofs.Qxb6003262a
