/-
  The walk of the law on records.
-/
import Derived.Test.Qxb6003262aCall
namespace Go.Proofs.Qxb6003262a
set_option linter.unusedVariables false
open Go.RowKit

/-! ### The record, as a list -/
def rec0 (ss st wh lt : Bool) : List Int := [fl ss st wh lt]
def rec1 (ss st wh lt : Bool) (S : Int) : List Int := rec0 ss st wh lt ++ (if ss then [] else enc 9 S.toNat)
def rec2 (ss st wh lt : Bool) (S d ds : Int) : List Int := rec1 ss st wh lt S ++ (if st then [] else enc 9 (zz d) ++ enc 9 (zz ds))
def rec3 (ss st wh lt : Bool) (S d ds N : Int) : List Int := rec2 ss st wh lt S d ds ++ (if wh then [] else enc 9 N.toNat)
def rec4 (ss st wh lt : Bool) (S d ds N lb M : Int) : List Int := rec3 ss st wh lt S d ds N ++ (if lt then enc 9 lb.toNat ++ (if wh then [] else enc 9 M.toNat) else [])

theorem At.of {zs pre l post : List Int} (h : zs = pre ++ (l ++ post)) : At zs pre.length l := by
  intro j hj
  subst h
  rw [List.getElem?_append_right (by omega), Nat.add_sub_cancel_left, List.getElem?_append_left hj]

theorem uv_at {zs pre post : List Int} {n v : Nat} (hv : v < 18446744073709551616) (h : zs = pre ++ (enc 9 v ++ post)) (hn : zs.length ≤ n) :
    uv zs n pre.length = ((v : Int), ((pre.length + (enc 9 v).length : Nat) : Int)) := by
  refine uv_enc hv (At.of h) ?_
  have := congrArg List.length h
  simp at this
  omega

theorem rd_of (ss st wh lt : Bool) (c0 c1 c2 c3 c4 S L T N A M d ds lb : Int) (rest : List Int) (n : Nat) (hn : n = (rec4 ss st wh lt S d ds N lb M).length + rest.length)
    (hS : 0 ≤ S ∧ S ≤ 9223372036854775807) (hss : ss = true → S = c2) (hd : -9223372036854775808 ≤ d ∧ d ≤ 9223372036854775807) (hds : -9223372036854775808 ≤ ds ∧ ds ≤ 9223372036854775807)
    (hst : st = true → d = c4 ∧ ds = c3) (hL : wrap64 (c1 + d) = L) (hT : wrap64 (c0 + ds) = T) (hN : 0 ≤ N ∧ N ≤ 999999999) (hM : 0 ≤ M ∧ M ≤ 999999999) (hlb : 0 ≤ lb ∧ lb ≤ 9223372036854775807)
    (hwh : wh = true → N = 0 ∧ (lt = true → M = 0)) (h5 : lt = true → wrap64 (T - lb) = A) (h5' : lt = false → A = T ∧ M = N) :
    ∃ i1 i2 i3 i4 i5, Rd (rec4 ss st wh lt S d ds N lb M ++ rest) n ss st wh lt c0 c1 c2 c3 c4 S L T N A M d ds lb i1 i2 i3 i4 i5 (rec4 ss st wh lt S d ds N lb M).length := by
  have hzd := zz_lt hd.1 hd.2
  have hzds := zz_lt hds.1 hds.2
  have eS : ((S.toNat : Nat) : Int) = S := by omega
  have eN : ((N.toNat : Nat) : Int) = N := by omega
  have eM : ((M.toNat : Nat) : Int) = M := by omega
  have eb : ((lb.toNat : Nat) : Int) = lb := by omega
  have hlen : (rec4 ss st wh lt S d ds N lb M ++ rest).length ≤ n := by rw [List.length_append]; omega
  -- the tails
  obtain ⟨t1, e1⟩ : ∃ t, rec4 ss st wh lt S d ds N lb M ++ rest = rec1 ss st wh lt S ++ t := ⟨_, by rw [rec4, rec3, rec2]; simp only [List.append_assoc]; rfl⟩
  obtain ⟨t2, e2⟩ : ∃ t, rec4 ss st wh lt S d ds N lb M ++ rest = rec2 ss st wh lt S d ds ++ t := ⟨_, by rw [rec4, rec3]; simp only [List.append_assoc]; rfl⟩
  obtain ⟨t3, e3⟩ : ∃ t, rec4 ss st wh lt S d ds N lb M ++ rest = rec3 ss st wh lt S d ds N ++ t := ⟨_, by rw [rec4]; simp only [List.append_assoc]; rfl⟩
  have l1 : (rec1 ss st wh lt S).length ≤ n := by have := congrArg List.length e1; rw [List.length_append (bs := t1)] at this; omega
  have l2 : (rec2 ss st wh lt S d ds).length ≤ n := by have := congrArg List.length e2; rw [List.length_append (bs := t2)] at this; omega
  have l3 : (rec3 ss st wh lt S d ds N).length ≤ n := by have := congrArg List.length e3; rw [List.length_append (bs := t3)] at this; omega
  have l4 : (rec4 ss st wh lt S d ds N lb M).length ≤ n := by omega
  refine ⟨(rec1 ss st wh lt S).length, if st then 0 else (rec1 ss st wh lt S).length + (enc 9 (zz d)).length, (rec2 ss st wh lt S d ds).length, (rec3 ss st wh lt S d ds N).length, if lt then (rec3 ss st wh lt S d ds N).length + (enc 9 lb.toNat).length else 0, ?_⟩
  refine ⟨fun h => ⟨?_, by omega, by omega⟩, fun h => ⟨?_, hss h⟩, hd, hds, fun h => ⟨?_, ?_⟩, fun h => ⟨?_, hst h⟩, ⟨l1, ?_, l2, l3, ?_, l4⟩, hL, hT, hN, hM, hlb, fun h => ?_, fun h => ⟨?_, (hwh h).1⟩, fun h => ⟨?_, h5 h⟩, fun h => ⟨?_, h5' h⟩, fun h h' => ?_, fun h h' => ⟨?_, (hwh h').2 h⟩⟩
  · subst h
    have := uv_at (zs := rec4 false st wh lt S d ds N lb M ++ rest) (pre := rec0 false st wh lt) (v := S.toNat) (post := t1) (by omega) (by rw [e1, rec1]; simp) hlen
    rw [show (1 : Nat) = (rec0 false st wh lt).length from rfl, this, eS]
    congr 1; rw [rec1]; simp
  · subst h; simp [rec1, rec0]
  · subst h
    have := uv_at (zs := rec4 ss false wh lt S d ds N lb M ++ rest) (pre := rec1 ss false wh lt S) (v := zz d) (post := enc 9 (zz ds) ++ t2) hzd (by rw [e2, rec2]; simp) hlen
    rw [this]; simp
  · subst h
    have := uv_at (zs := rec4 ss false wh lt S d ds N lb M ++ rest) (pre := rec1 ss false wh lt S ++ enc 9 (zz d)) (v := zz ds) (post := t2) hzds (by rw [e2, rec2]; simp) hlen
    rw [List.length_append] at this
    simp only [Bool.false_eq_true, if_false]
    rw [this]; congr 1; rw [rec2]; simp; omega
  · subst h; simp [rec2]
  · by_cases h : st = true
    · simp [h]
    · have h' : st = false := by simpa using h
      subst h'
      have : (rec2 ss false wh lt S d ds).length = (rec1 ss false wh lt S).length + (enc 9 (zz d)).length + (enc 9 (zz ds)).length := by rw [rec2]; simp; omega
      simp only [Bool.false_eq_true, if_false]
      omega
  · by_cases h : lt = true
    · subst h
      have : (rec4 ss st wh true S d ds N lb M).length ≥ (rec3 ss st wh true S d ds N).length + (enc 9 lb.toNat).length := by rw [rec4]; simp
      simp only [if_true]
      omega
    · simp [h]
  · subst h
    have := uv_at (zs := rec4 ss st false lt S d ds N lb M ++ rest) (pre := rec2 ss st false lt S d ds) (v := N.toNat) (post := t3) (by omega) (by rw [e3, rec3]; simp) hlen
    rw [this, eN]; congr 1; rw [rec3]; simp
  · subst h; simp [rec3]
  · subst h
    have := uv_at (zs := rec4 ss st wh true S d ds N lb M ++ rest) (pre := rec3 ss st wh true S d ds N) (v := lb.toNat) (post := (if wh then [] else enc 9 M.toNat) ++ rest) (by omega) (by rw [rec4]; simp) hlen
    rw [this, eb]; simp
  · subst h; simp [rec4]
  · subst h; subst h'
    have := uv_at (zs := rec4 ss st false true S d ds N lb M ++ rest) (pre := rec3 ss st false true S d ds N ++ enc 9 lb.toNat) (v := M.toNat) (post := rest) (by omega) (by rw [rec4]; simp) hlen
    rw [List.length_append] at this
    simp only [if_true]
    rw [this, eM]; congr 1; rw [rec4]; simp; omega
  · subst h; subst h'; simp [rec4]
end Go.Proofs.Qxb6003262a
