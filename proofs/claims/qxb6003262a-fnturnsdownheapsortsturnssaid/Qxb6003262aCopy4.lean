/-
  The builtin copy on whole rows of turns (four cells an element): a law for the walk.
-/
import Derived.Test.Qxb6003262aSame
import Derived.Laws.CopyRow
import Derived.Laws.CopyOwn
namespace Go.Proofs.Qxb6003262a
set_option linter.unusedVariables false
open Go.RowKit

theorem run_copy4 (w : World) (ty : TypeId) (g n cap' : Nat) (a : Addr) (cur : Array Value) (cs : List Value) (hg : w.heap[g]? = some (.cells cur 45 (0, 0))) (hn : cs.length = n * 4)
    (hsrc : ∀ j v, cs[j]? = some v → w.cell? (a.add j) = some v) (hfit : cs.length = cur.size) (h1 : ∀ v ∈ cs, v.oneCell' = true) :
    (Builtin.copy_ #[38, 38] ty #[.slice (some ⟨g, 0, none⟩) n n, .slice (some a) n cap']).run Try.prog w = .ok (goInt n) (w.setRow g cs.toArray) := by
  have hl := run_loadCells_list (P := Try.prog) w a cs hsrc
  have hst := run_storeCells_at Try.prog g 0 45 cs 0 cur w hg (by omega) h1
  obtain ⟨i, hi, hz0, hz1, hz2⟩ := info_parts Try.info45
  have e : (cur.toList.take (0 + 0) ++ cs ++ cur.toList.drop (0 + 0 + cs.length)).toArray = cs.toArray := by
    rw [List.drop_of_length_le (by simp; omega)]; simp
  rw [e] at hst
  simp [Builtin.copy_, run_underlying Try.underlying38, Builtin.lenOf, Builtin.firstCells, sizeOf, typeInfo, hi, hz1, ← hn, hl, hst]

theorem tcells_one (q : List Tn) : ∀ v ∈ q.flatMap tcells, v.oneCell' = true := by
  intro v hv
  rw [List.mem_flatMap] at hv
  obtain ⟨t, _, ht⟩ := hv
  simp [tcells] at ht
  rcases ht with rfl | rfl | rfl | rfl <;> rfl

theorem row_cells {w : World} {b off : Nat} {q : List Tn} (h : TRow w b off q) : ∀ j v, (q.flatMap tcells)[j]? = some v → w.cell? ((⟨b, off, none⟩ : Addr).add j) = some v := by
  intro j v hv
  have hj : j < 4 * q.length := by
    rcases Nat.lt_or_ge j (4 * q.length) with h | h
    · exact h
    · rw [List.getElem?_eq_none (by rw [flat_len]; exact h)] at hv; cases hv
  rw [Go.WideShapes.add_plain]
  have hr := h (j / 4) (by omega)
  have hg := flat_get q (j / 4) (j % 4) (by omega) (by omega)
  rw [show j / 4 * 4 + j % 4 = j by omega, hv] at hg
  have hm : j % 4 = 0 ∨ j % 4 = 1 ∨ j % 4 = 2 ∨ j % 4 = 3 := by omega
  rcases hm with hm | hm | hm | hm <;> rw [hm] at hg
  · rw [show off + j = off + j / 4 * 4 by omega, hr.1, hg]; rfl
  · rw [show off + j = off + j / 4 * 4 + 1 by omega, hr.2.1, hg]; rfl
  · rw [show off + j = off + j / 4 * 4 + 2 by omega, hr.2.2.1, hg]; rfl
  · rw [show off + j = off + j / 4 * 4 + 3 by omega, hr.2.2.2, hg]; rfl

/-- 'copy(out, q)', out a made row of q's length. -/
theorem wpList_copyT {w : World} {ops : Array Oper} {rest : List Oper} {o : Oper} {a : Act} {Q : Exit → Act → World → Prop} (hgd : o.guard = none) (d s : Operand)
    (ho : o.op = .call { callee := .builtin .copy, args := #[d, s], argTypes := #[38, 38] }) (g n c' : Nat) (ao : Option Addr) (q p : List Tn) (hd : a.eval d = .slice (some ⟨g, 0, none⟩) n n) (hs : a.eval s = .slice ao n c')
    (hT : TIn w ao n q) (hc : ao = none → c' = 0) (hO : OwnT w g 45 p) (hp : p.length = n) (B : Nat) (w0 : World) (hb : Below B w0 w) (hBg : B ≤ g)
    (h : ∀ w', OwnT w' g 45 q → Below B w0 w' → wpList Try.prog ops Q rest (a.put o.dst (goInt n)) w') : wpList Try.prog ops Q (o :: rest) a w := by
  obtain ⟨hq, hn, hnil, hr⟩ := hT
  obtain ⟨i, hi, hz0, hz1, hz2⟩ := info_parts Try.info45
  refine wpList_plain hgd fun K hK => ?_
  cases ao with
  | none =>
    obtain rfl := hnil rfl
    obtain rfl := hc rfl
    have hrun := run_copy_nil (P := Try.prog) w 38 38 o.type 45 ⟨g, 0, none⟩ 0 0 Try.underlying38 (by simp [hi])
    unfold Oper.wp
    simp [execOp, ho, resolve, invoke, builtin, hd, hs, hrun, Result.andThen]
    have e1 : p = q := by rw [List.eq_nil_of_length_eq_zero hp, List.eq_nil_of_length_eq_zero hq]
    exact hK _ _ (h w (e1 ▸ hO) hb)
  | some x =>
    have hsrc : ∀ j v, (q.flatMap tcells)[j]? = some v → w.cell? (x.add j) = some v := by
      rcases hr with hr | ⟨b, off, e, hr⟩
      · intro j v hv
        rw [List.eq_nil_of_length_eq_zero (by omega : q.length = 0)] at hv
        simp at hv
      · obtain rfl := Option.some.inj e
        exact row_cells hr
    have hrun := run_copy4 w o.type g n c' x _ (q.flatMap tcells) hO (by rw [flat_len]; omega) hsrc (by rw [List.size_toArray, flat_len, flat_len]; omega) (tcells_one q)
    unfold Oper.wp
    simp [execOp, ho, resolve, invoke, builtin, hd, hs, hrun, Result.andThen]
    exact hK _ _ (h _ (setRow_heap w g _ _ 45 _ hO) (below_setRow hb hBg _))
end Go.Proofs.Qxb6003262a
