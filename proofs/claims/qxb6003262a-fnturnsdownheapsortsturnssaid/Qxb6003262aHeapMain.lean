/-
  The walk of FnTurnsDownHeapsortsTurns, where its domain is met.
-/
import Derived.Test.Qxb6003262aSort
namespace Go.Proofs.Qxb6003262a
set_option linter.unusedVariables false
open Go.RowKit

def sliceLen' : Value → Nat | .slice _ n _ => n | _ => 0

/-- Where the taking out stands in memory. -/
structure HS2 (w1 : World) (go gh n : Nat) (o h : List Tn) (wr : World) : Prop where
  own : wr.ownsRow go 45 4 (.slice (some ⟨go, 0, none⟩) o.length n) o.length (o.flatMap tcells)
  hp : OwnT wr gh 45 h
  bel : Below w1.heap.size w1 wr
  lg : w1.heap.size ≤ gh
  lo : w1.heap.size ≤ go
  ne : gh ≠ go
  lt : go < wr.heap.size

theorem HS2.app {w1 : World} {go gh n : Nat} {o h : List Tn} {wr w2 : World} (t : Tn) (O : Obj) (s : HS2 w1 go gh n o h wr)
    (ho : w2.ownsRow go 45 4 (.slice (some ⟨go, 0, none⟩) (o.length + 1) n) (o.length + 1) (o.flatMap tcells ++ tcells t)) (hg : (wr.alloc O).grownBy w2 (some go)) : HS2 w1 go gh n (o ++ [t]) h w2 := by
  have hl := s.hp.lt
  have hlo := s.lt
  refine ⟨by rw [List.length_append, List.flatMap_append]; simpa using ho, ?_, ?_, s.lg, s.lo, s.ne, by have := hg.size; simp at this; omega⟩
  · exact ((hg.block gh (by simp; omega) (by simp; exact s.ne)).trans (Below.heap_alloc wr O gh hl)).trans s.hp
  · exact (s.bel.alloc s.bel.size O).grown hg (by simp; have := s.bel.size; omega) (fun k hk => by cases hk; exact s.lo)
theorem HS2.store {w1 : World} {go gh n : Nat} {o h : List Tn} {wr : World} (s : HS2 w1 go gh n o h wr) (j : Nat) (t : Tn) (hj : j < h.length) :
    HS2 w1 go gh n o (h.set j t) ((((wr.setCell ⟨gh, j * 4, none⟩ (.int .i64 t.s)).setCell ⟨gh, j * 4 + 1, none⟩ (.int .i32 t.n)).setCell ⟨gh, j * 4 + 2, none⟩ (.int .i64 t.r)).setCell ⟨gh, j * 4 + 3, none⟩ (.int .i64 t.u)) := by
  refine ⟨?_, s.hp.store j t hj, (((s.bel.setCell (p := ⟨gh, j * 4, none⟩) s.lg _).setCell (p := ⟨gh, j * 4 + 1, none⟩) s.lg _).setCell (p := ⟨gh, j * 4 + 2, none⟩) s.lg _).setCell (p := ⟨gh, j * 4 + 3, none⟩) s.lg _, s.lg, s.lo, s.ne, by simpa using s.lt⟩
  refine s.own.kept (row := some gh) ⟨rfl, rfl, rfl, by simp, fun k _ hk => ?_⟩ (.inr (by simp [Value.ownBlock]; exact fun e => s.ne e.symm))
  have : k ≠ gh := fun e => hk (by rw [e])
  rw [heap_setCell_other _ _ _ _ this, heap_setCell_other _ _ _ _ this, heap_setCell_other _ _ _ _ this, heap_setCell_other _ _ _ _ this]
theorem HS2.next {w1 : World} {go gh n : Nat} {o h : List Tn} {wr w2 : World} (s : HS2 w1 go gh n o h wr) (gh' : Nat) (h' : List Tn) (hB : Below wr.heap.size wr w2) (hO : OwnT w2 gh' 45 h') (hg : wr.heap.size ≤ gh') : HS2 w1 go gh' n o h' w2 := by
  have hs := s.bel.size
  have hlo := s.lt
  refine ⟨s.own.kept ⟨hB.os, hB.tape, hB.output, hB.size, fun k hk _ => hB.block k hk⟩ (row := none) (.inr (by simp [Value.ownBlock])), hO, s.bel.trans (hB.mono hs), by omega, s.lo, by omega, by have := hB.size; omega⟩

set_option maxHeartbeats 2000000 in
theorem heap_main (a : Option Addr) (n c : Nat) (q : List Tn) (w : World) (hn : n ≤ 4096) (hT : TIn w a n q) :
    Calls Try.prog 8 #[.slice a n c] w fun e w' => e = .returned (.bool true) ∧ Below w.heap.size w w' := by
  obtain ⟨i0, hi0, hz0, hz1, hz2⟩ := info_parts Try.info45
  have HQ : Hid (q.length = n) := hT.1
  have hdec : decide ((4096 : Int) < (n : Int)) = false := decide_eq_false (by omega)
  go_enter Try.func8, Try.ntmps8
  go_wp2_with (first | (go_at_call 21; refine (copyT a n c q w hT).mono ?_; rintro e w1 ⟨a', rfl, hT1, hB1⟩; have hnil : a' = none → n = 0 := hT1.2.2.1) | (at_make; refine wpList_make_full _ rfl (.tmp 16) (.tmp 16) 38 rfl w1.heap.size 45 i0 _ 4 Try.underlying38 hi0 hz0 hz1 .i64 .i64 n n n rfl rfl rfl rfl (by rw [hz2]; omega) (by unfold maxLen; omega) (Nat.le_refl _) ?_; intro w2 hown hgrow) | (refine wpList_copyT rfl (.tmp 18) (.tmp 19) rfl w1.heap.size n n a' q (List.replicate n t0) rfl rfl (hT1.below (below_grown0 hgrow)) hnil (ownT_made hown) (by simp) w1.heap.size w1 (below_grown0 hgrow) (Nat.le_refl _) ?_; intro w3 HO3 hB3) | (go_at_call 26; go_in))
  clear hown hgrow hT
  have hBw : Below w.heap.size w w1 := hB1
  clear hB1
  go_loopw [3, 4] (fun s3 s4 wr => ∃ (m g : Nat) (p : List Tn), m ≤ n / 2 ∧ s4 = .int .i64 ((m : Int) - 1) ∧ s3 = .slice (some ⟨g, 0, none⟩) n n ∧ OwnT wr g 45 p ∧ w1.heap.size ≤ g ∧ p.length = n ∧ Hid (Hp m p) ∧ Hid (p.Perm q) ∧ Below w1.heap.size w1 wr) (fun _ s4 _ => ((intOf s4) + 1).toNat)
  case atStart =>
    refine ⟨n / 2, w1.heap.size, q, by omega, by go_num, rfl, HO3, Nat.le_refl _, HQ.out, ?_, List.Perm.refl _, hB3⟩
    have := Hp_half q
    rw [HQ.out] at this
    exact this
  case round =>
    clear HO3 hB3
    obtain ⟨m, g, p, hm, rfl, rfl, HO, hgl, hpl, HH, HP, hB⟩ := hrel
    match m, hm, HH with
    | m + 1, hm, HH =>
      have e : (((m + 1 : Nat) : Int) - 1) = (m : Int) := by omega
      rw [e]
      have hTp : TIn wr (some ⟨g, 0, none⟩) n p := by have := HO.tin (by omega); rwa [hpl] at this
      have hd := down_heap p m HH.out (.inl (by omega))
      have HH2 : Hid (Hp m (downF p m)) := hd.1
      have HP2 : Hid ((downF p m).Perm q) := hd.2.trans HP.out
      have hl2 : (downF p m).length = n := (downF_len p m).trans hpl
      clear hd e HH HP HO
      go_wp2_with fail
      refine (calldown (some ⟨g, 0, none⟩) n n m p wr (by omega) hTp).mono ?_
      rintro e w4 ⟨g4, rfl, HO4, hg4, hB4⟩
      have hB5 : Below w1.heap.size w1 w4 := hB.trans (hB4.mono hB.size)
      have hg5 : w1.heap.size ≤ g4 := by have := hB.size; omega
      obtain ⟨p4, hp4⟩ : ∃ p4, p4 = downF p m := ⟨_, rfl⟩
      rw [← hp4] at HO4 HH2 HP2 hl2
      clear hp4 hB hB4 hTp hg4
      go_wp2
      go_roundw
      case rel => exact ⟨m, g4, p4, by omega, by go_num, rfl, HO4, hg5, hl2, HH2, HP2, hB5⟩
      case measure => simp [intOf]
    | 0, hm, HH =>
      go_wp2_with (at_make; refine wpList_make_own _ rfl (.const (.int .i64 0)) (.tmp 33) 38 rfl wr.heap.size 45 i0 _ 4 Try.underlying38 hi0 hz0 hz1 .i64 .i64 n n rfl rfl rfl (by rw [hz2]; omega) (by unfold maxLen; omega) (Nat.le_refl _) ?_; intro w4 o4 r4)
      have b4 := below_grown0 r4
      have hgr := HO.lt
      have hS0 : HS2 w1 wr.heap.size g n [] p w4 := ⟨by simpa using o4, (b4.block g hgr).trans HO, hB.trans (b4.mono hB.size), hgl, hB.size, by omega, (o4.lt _ rfl).2⟩
      obtain ⟨go, eg⟩ : ∃ go, go = wr.heap.size := ⟨_, rfl⟩
      rw [← eg] at hS0 ⊢
      have HT0 : Hid (Taking q [] p) := ⟨HH.out, HP.out, List.Pairwise.nil, fun x hx => by simp at hx⟩
      clear eg o4 r4 b4 HO HH HP hB hgl hgr
      go_loopw [3, 5] (fun s3 s5 wx => ∃ (gh j k : Nat) (o h : List Tn), j + k = n ∧ s3 = .slice (some ⟨gh, 0, none⟩) k k ∧ s5 = .slice (some ⟨go, 0, none⟩) j n ∧ HS2 w1 go gh n o h wx ∧ Hid (o.length = j) ∧ Hid (h.length = k) ∧ Hid (Taking q o h)) (fun s3 _ _ => sliceLen' s3)
      case atStart => exact ⟨g, 0, n, [], p, by omega, rfl, rfl, hS0, rfl, hpl, HT0⟩
      case round =>
        clear hS0 HT0 hpl
        obtain ⟨gh, j, k, o, h, hjk, rfl, rfl, hS, HJ, HK, HTk⟩ := hrel
        match k, hjk, HK with
        | k + 1, hjk, HK =>
          obtain ⟨e0, e1, e2, e3⟩ := hS.hp.at 0 (by rw [HK.out]; omega)
          simp only [Nat.zero_mul, Nat.zero_add] at e0 e1 e2 e3
          have hlt := hS.lt
          have hown := hS.own
          rw [HJ.out] at hown
          go_wp2_with (at_builtin; refine wpList_append_fits _ rfl (.tmp 38) (.tmp 42) 38 rfl go 45 i0 4 Try.underlying38 hi0 hz1 go j n (o.flatMap tcells) rfl (hown.alloc _) ⟨wr.heap.size, 0, none⟩ 1 1 (tcells (gt h 0)) rfl rfl (cellT_new _ _) (oneT _) (by omega) ?_; intro w5 ho5 hg5; have hS5 : HS2 w1 go gh n (o ++ [gt h 0]) h w5 := hS.app (gt h 0) _ (by rw [HJ.out]; exact ho5) hg5; obtain ⟨f0, f1, f2, f3⟩ := hS5.hp.at k (by rw [HK.out]; omega); obtain ⟨d0, d1, d2, d3⟩ := hS5.hp.at 0 (by rw [HK.out]; omega); simp only [Nat.zero_mul, Nat.zero_add] at d0 d1 d2 d3; have hfz := hS5.hp.frozen)
          obtain ⟨w6, e6⟩ : ∃ w6, w6 = ((((w5.setCell ⟨gh, 0, none⟩ (.int .i64 (gt h k).s)).setCell ⟨gh, 1, none⟩ (.int .i32 (gt h k).n)).setCell ⟨gh, 2, none⟩ (.int .i64 (gt h k).r)).setCell ⟨gh, 3, none⟩ (.int .i64 (gt h k).u)) := ⟨_, rfl⟩
          have hS6 : HS2 w1 go gh n (o ++ [gt h 0]) (h.set 0 (gt h k)) w6 := by
            rw [e6]
            exact hS5.store 0 (gt h k) (by rw [HK.out]; omega)
          rw [← e6]
          have hpop : popped h = (h.set 0 (gt h k)).take k := by unfold popped; rw [HK.out]; rfl
          have hT6 : TIn w6 (some ⟨gh, 0, none⟩) k (popped h) := by
            refine ⟨by rw [popped_len, HK.out]; omega, by omega, (fun h => by cases h), .inr ⟨gh, 0, rfl, ?_⟩⟩
            rw [hpop]
            exact hS6.hp.row.take k (by rw [List.length_set, HK.out]; omega)
          have HTn : Hid (Taking q (o ++ [gt h 0]) (downF (popped h) 0)) := HTk.out.step (by rw [HK.out]; omega)
          have HK2 : Hid ((downF (popped h) 0).length = k) := by show _ = _; rw [downF_len, popped_len, HK.out]; omega
          have HJ2 : Hid ((o ++ [gt h 0]).length = j + 1) := by show _ = _; rw [List.length_append, HJ.out]; rfl
          have HC : Calls Try.prog 23 #[.slice (some ⟨gh, 0, none⟩) k (k + 1), .int .i64 0] w6 fun e w' => ∃ g, e = .returned (.slice (some ⟨g, 0, none⟩) k k) ∧ OwnT w' g 45 (downF (popped h) 0) ∧ w6.heap.size ≤ g ∧ Below w6.heap.size w6 w' :=
            calldown (some ⟨gh, 0, none⟩) k (k + 1) 0 (popped h) w6 (by omega) hT6
          clear e6 e0 e1 e2 e3 f0 f1 f2 f3 d0 d1 d2 d3 hfz hS5 ho5 hg5 hown hlt hS hT6 hpop HTk HK HJ
          refine HC.mono ?_
          rintro e w7 ⟨g7, rfl, HO7, hg7, hB7⟩
          have hS7 := hS6.next g7 _ hB7 HO7 hg7
          clear HC hS6 HO7 hg7 hB7
          go_wp2
          go_roundw
          case rel => exact ⟨g7, j + 1, k, _, _, by omega, rfl, rfl, hS7, HJ2, HK2, HTn⟩
          case measure => simp [sliceLen']
        | 0, hjk, HK =>
          have hj : j = n := by omega
          have ho : HS2 w1 go gh n o h wr := hS
          have hown := hS.own
          rw [HJ.out, hj] at hown
          have hOo := ownT_of hown
          have hTq := hT1.below hS.bel
          have hBr : Below w.heap.size w wr := hBw.trans (hS.bel.mono hBw.size)
          have hh : h = [] := List.eq_nil_of_length_eq_zero HK.out
          have HPo : Hid (o.Perm q) := by show o.Perm q; have := HTk.out.perm; rw [hh] at this; simpa using this
          have HSo : Hid (o.Pairwise Le) := HTk.out.sort
          have HLo : Hid (o.length = n) := HJ.out.trans hj
          have hnil : a' = none → n = 0 := hT1.2.2.1
          clear hS ho hown hh HTk HK HJ
          subst hj
          go_wp2_with fail
          refine (sort_any j a' j j q wr (Nat.le_refl _) (Nat.le_refl _) (by omega) hTq hnil).mono ?_
          rintro e w5 ⟨g5, p5, rfl, HO5, hp5, hs5, hB5⟩
          have hbl : go < wr.heap.size := hOo.lt
          have HOo : OwnT w5 go 45 p5 := by
            rw [← sorted_unique HSo.out hs5 (HPo.out.trans hp5.symm)]
            exact (hB5.block go hbl).trans hOo
          have hl5 : p5.length = j := by have := hp5.length_eq; have h2 := HQ.out; omega
          have k1 := HOo.tin (by omega)
          have k2 := HO5.tin (by omega)
          rw [hl5] at k1 k2
          have hBr5 : Below w.heap.size w w5 := hBr.trans (hB5.mono hBr.size)
          clear hOo hTq hBr HPo HSo HO5 hp5 hs5 hB5 HOo
          go_wp2_with fail
          refine (same_any _ _ j j j p5 w5 k1 k2).mono ?_
          rintro e w6 ⟨rfl, hB6⟩
          have hB7 : Below w.heap.size w w6 := hBr5.trans (hB6.mono hBr5.size)
          clear k1 k2 hB6 hBr5
          go_wp2
          go_ret
          exact ⟨rfl, hB7⟩
end Go.Proofs.Qxb6003262a
