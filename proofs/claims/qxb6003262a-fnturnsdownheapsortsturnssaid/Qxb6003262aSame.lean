/-
  The walk of zzSameTurns at two rows that hold the same turns; of zzInSubtree; of zzSubtreesAreHeaps.
-/
import Derived.Test.Qxb6003262aCallDown
namespace Go.Proofs.Qxb6003262a
set_option linter.unusedVariables false
open Go.RowKit

set_option maxHeartbeats 400000 in
theorem same_any (a a' : Option Addr) (n c c' : Nat) (q : List Tn) (w : World) (h : TIn w a n q) (h' : TIn w a' n q) :
    Calls Try.prog 25 #[.slice a n c, .slice a' n c'] w fun e w' => e = .returned (.bool true) ∧ Below w.heap.size w w' := by
  obtain ⟨hq, hn, _, hr⟩ := h
  obtain ⟨_, _, _, hr'⟩ := h'
  go_enter Try.func25, Try.ntmps25
  go_wp2
  go_loopw [5] (fun x wr => ∃ k : Nat, k ≤ n ∧ x = .int .i64 (k : Int) ∧ Below w.heap.size w wr) (fun x _ => n - (intOf x).toNat)
  case atStart => exact ⟨0, by omega, rfl, Below.refl _ _⟩
  case round =>
    obtain ⟨k, hk, rfl, hB⟩ := hrel
    by_cases hlt : k < n
    · obtain hz | ⟨b, off, rfl, hr⟩ := hr
      · omega
      obtain hz | ⟨b', off', rfl, hr'⟩ := hr'
      · omega
      obtain ⟨e0, e1, e2, e3⟩ := (hr.below' hB) k (by omega)
      obtain ⟨f0, f1, f2, f3⟩ := (hr'.below' hB) k (by omega)
      have kI : (k : Int) < (n : Int) := by omega
      have kI0 : (0 : Int) ≤ (k : Int) := by omega
      clear hr hr'
      go_upto_region 6 with fail
      go_quiet (fail)
      go_wp2
      go_roundw
      case rel => exact ⟨k + 1, by omega, by go_num, hB.trans (belowD _ _ _)⟩
      case measure => simp [intOf]; omega
    · clear hr hr'
      go_wp2
      go_ret
      exact ⟨rfl, hB⟩

/-- i is k, or an ancestor of k. -/
def inSub : Nat → Nat → Nat → Bool
  | 0, k, i => k == i
  | f + 1, k, i => if i < k then inSub f ((k - 1) / 2) i else k == i

set_option maxHeartbeats 400000 in
theorem insub_any (k i : Nat) (w : World) (hk : k ≤ 1048576) (hi : (i : Int) ≤ 9223372036854775807) :
    Calls Try.prog 31 #[.int .i64 k, .int .i64 i] w fun e w' => e = .returned (.bool (inSub k k i)) ∧ w' = w := by
  go_enter Try.func31, Try.ntmps31
  go_wp2
  go_loop [0] (fun x => ∃ f j : Nat, j ≤ k ∧ j ≤ f ∧ x = .int .i64 (j : Int) ∧ Hid (inSub k k i = inSub f j i)) (fun x => (intOf x).toNat)
  case atStart => exact ⟨k, k, by omega, by omega, rfl, rfl⟩
  case round =>
    obtain ⟨f, j, hj, hf, rfl, HE⟩ := hrel
    by_cases h1 : i < j
    · obtain ⟨m, rfl⟩ : ∃ m, f = m + 1 := ⟨f - 1, by omega⟩
      have HE2 : Hid (inSub (m + 1) j i = inSub m ((j - 1) / 2) i) := by show _ = _; rw [inSub, if_pos h1]
      go_wp2
      go_round
      case rel => exact ⟨m, (j - 1) / 2, by omega, by omega, by go_num, HE.out.trans HE2.out⟩
      case measure => simp [intOf]; omega
    · have HE2 : Hid (inSub f j i = (j == i)) := by
        show _ = _
        cases f with
        | zero => rfl
        | succ f => rw [inSub, if_neg h1]
      go_wp2
      go_ret
      refine ⟨ret_bool ?_, rfl⟩
      rw [HE.out, HE2.out, Bool.eq_iff_iff]
      simp
      omega

/-- What zzSubtreesAreHeaps asks at place k. -/
def okAt (q : List Tn) (i k : Nat) : Prop := (k - 1) / 2 ≠ i → inSub ((k - 1) / 2) ((k - 1) / 2) i = true → bef (gt q k) (gt q ((k - 1) / 2)) = false

set_option maxHeartbeats 1000000 in
theorem subs_any (a : Option Addr) (n c i : Nat) (q : List Tn) (w : World) (hi : (i : Int) ≤ 9223372036854775807) (h : TIn w a n q) :
    Calls Try.prog 22 #[.slice a n c, .int .i64 i] w fun e w' => ∃ b : Bool, e = .returned (.bool b) ∧ (b = true → ∀ k, 1 ≤ k → k < n → okAt q i k) ∧ Below w.heap.size w w' := by
  obtain ⟨hq, hn, _, hr⟩ := h
  go_enter Try.func22, Try.ntmps22
  go_wp2
  go_loopw [5] (fun x wr => ∃ k : Nat, 1 ≤ k ∧ (k ≤ n ∨ k = 1) ∧ x = .int .i64 (k : Int) ∧ Hid (∀ j, 1 ≤ j → j < k → okAt q i j) ∧ Below w.heap.size w wr) (fun x _ => n - (intOf x).toNat)
  case atStart => exact ⟨1, by omega, .inr rfl, rfl, (fun j h1 h2 => by omega), Below.refl _ _⟩
  case round =>
    obtain ⟨k, hk1, hk, rfl, HO, hB⟩ := hrel
    by_cases hlt : k < n
    · obtain hz | ⟨b, off, rfl, hr⟩ := hr
      · omega
      go_upto_region 5 with fail
      obtain ⟨p, hp⟩ : ∃ p, p = (k - 1) / 2 := ⟨_, rfl⟩
      have hpI : ((k : Int) - 1) / 2 = (p : Int) := by omega
      have hpk : p < k := by omega
      rw [hpI]
      have HP : Hid (p = (k - 1) / 2) := hp
      clear hpI hp
      by_cases hA : p = i
      · have gA : ((p : Int) != (i : Int)) = false := by simp [hA]
        have HN : Hid (∀ j, 1 ≤ j → j < k + 1 → okAt q i j) := by
          intro j h1 h2
          by_cases e : j = k
          · subst e; intro h; exact absurd (HP.out.symm.trans hA) h
          · exact HO.out j h1 (by omega)
        clear hr hA HO
        go_quiet (fail)
        go_wp2
        go_roundw
        case rel => exact ⟨k + 1, by omega, by omega, by go_num, HN, hB.trans (belowD _ _ _)⟩
        case measure => simp [intOf]; omega
      · have gA : ((p : Int) != (i : Int)) = true := by
          simp; omega
        by_cases hIn : inSub p p i = true
        · have H31 : ∀ wx : World, Calls Try.prog 31 #[.int .i64 p, .int .i64 i] wx fun e w' => e = .returned (.bool true) ∧ w' = wx := fun wx => by
            refine (insub_any p i wx (by omega) hi).mono ?_
            rintro e w' ⟨rfl, rfl⟩
            exact ⟨by rw [hIn], rfl⟩
          obtain ⟨e0, e1, e2, e3⟩ := (hr.below' hB) k (by omega)
          obtain ⟨f0, f1, f2, f3⟩ := (hr.below' hB) p (by omega)
          have kI : (k : Int) < (n : Int) := by omega
          have kI0 : (0 : Int) ≤ (k : Int) := by omega
          have pI : (p : Int) < (n : Int) := by omega
          have pI0 : (0 : Int) ≤ (p : Int) := by omega
          have hbw : b < wr.heap.size := World.block_lt_of_cell? _ _ e0
          by_cases hbef : bef (gt q k) (gt q p) = true
          · clear hr hA HO hIn
            go_region_held3 (fun w' => w'.cell? ⟨b, off + k * 4, none⟩ = some (.int .i64 (gt q k).s) ∧ w'.cell? ⟨b, off + k * 4 + 1, none⟩ = some (.int .i32 (gt q k).n) ∧ w'.cell? ⟨b, off + k * 4 + 2, none⟩ = some (.int .i64 (gt q k).r) ∧ w'.cell? ⟨b, off + k * 4 + 3, none⟩ = some (.int .i64 (gt q k).u) ∧ w'.cell? ⟨b, off + p * 4, none⟩ = some (.int .i64 (gt q p).s) ∧ w'.cell? ⟨b, off + p * 4 + 1, none⟩ = some (.int .i32 (gt q p).n) ∧ w'.cell? ⟨b, off + p * 4 + 2, none⟩ = some (.int .i64 (gt q p).r) ∧ w'.cell? ⟨b, off + p * 4 + 3, none⟩ = some (.int .i64 (gt q p).u)) (go_keep) ((first | (go_at_call 31; refine (H31 _).mono ?_; rintro e w' ⟨rfl, rfl⟩) | (go_at_call 32; refine (zbefore (gt q k) (gt q p) _).mono ?_; rintro e w' ⟨rfl, hb⟩; have hcc := fun o => hb.cell (p := ⟨b, o, none⟩) hbw)))
            all_goals go_wp2
            all_goals go_ret
            all_goals exact ⟨false, rfl, (fun h => by cases h), hB.drew.trans (hb.mono hB.size)⟩
          · have hbef' : bef (gt q k) (gt q p) = false := by simpa using hbef
            have HN : Hid (∀ j, 1 ≤ j → j < k + 1 → okAt q i j) := by
              intro j h1 h2
              by_cases e : j = k
              · subst e; intro _ _; rw [← HP.out]; exact hbef'
              · exact HO.out j h1 (by omega)
            clear hr hA HO hIn hbef
            go_region_held3 (fun w' => w'.cell? ⟨b, off + k * 4, none⟩ = some (.int .i64 (gt q k).s) ∧ w'.cell? ⟨b, off + k * 4 + 1, none⟩ = some (.int .i32 (gt q k).n) ∧ w'.cell? ⟨b, off + k * 4 + 2, none⟩ = some (.int .i64 (gt q k).r) ∧ w'.cell? ⟨b, off + k * 4 + 3, none⟩ = some (.int .i64 (gt q k).u) ∧ w'.cell? ⟨b, off + p * 4, none⟩ = some (.int .i64 (gt q p).s) ∧ w'.cell? ⟨b, off + p * 4 + 1, none⟩ = some (.int .i32 (gt q p).n) ∧ w'.cell? ⟨b, off + p * 4 + 2, none⟩ = some (.int .i64 (gt q p).r) ∧ w'.cell? ⟨b, off + p * 4 + 3, none⟩ = some (.int .i64 (gt q p).u)) (go_keep) ((first | (go_at_call 31; refine (H31 _).mono ?_; rintro e w' ⟨rfl, rfl⟩) | (go_at_call 32; refine (zbefore (gt q k) (gt q p) _).mono ?_; rintro e w' ⟨rfl, hb⟩; have hcc := fun o => hb.cell (p := ⟨b, o, none⟩) hbw)))
            all_goals go_wp2
            all_goals go_roundw
            case rel => exact ⟨k + 1, by omega, by omega, by go_num, HN, hB.drew.trans (hb.mono hB.size)⟩
            case measure => simp [intOf]; omega
        · have hIn' : inSub p p i = false := by simpa using hIn
          have H31 : ∀ wx : World, Calls Try.prog 31 #[.int .i64 p, .int .i64 i] wx fun e w' => e = .returned (.bool false) ∧ w' = wx := fun wx => by
            refine (insub_any p i wx (by omega) hi).mono ?_
            rintro e w' ⟨rfl, rfl⟩
            exact ⟨by rw [hIn'], rfl⟩
          have HN : Hid (∀ j, 1 ≤ j → j < k + 1 → okAt q i j) := by
            intro j h1 h2
            by_cases e : j = k
            · subst e; intro _ h; rw [← HP.out, hIn'] at h; cases h
            · exact HO.out j h1 (by omega)
          clear hr hA HO hIn hIn'
          go_quiet ((go_at_call 31; exact Calls.quiet_of_same (H31 _)))
          go_wp2
          go_roundw
          case rel => exact ⟨k + 1, by omega, by omega, by go_num, HN, hB.trans (belowD _ _ _)⟩
          case measure => simp [intOf]; omega
    · clear hr
      go_wp2
      go_ret
      exact ⟨true, rfl, (fun _ j h1 h2 => HO.out j h1 (by omega)), hB⟩
end Go.Proofs.Qxb6003262a
