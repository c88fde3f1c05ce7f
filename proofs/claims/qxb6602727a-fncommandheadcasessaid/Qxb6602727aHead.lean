/-
  For the case table on the first argument: the plain law, the byte count, the list that is built.
-/
import Derived.Test.Qxb6602727aCmdClone
namespace Go.Proofs.Qxb6602727a
set_option linter.unusedVariables false
open Go.RowKit

/-- The list with a head. -/
def hd (h : ByteArray) (S : Nat → ByteArray) : Nat → ByteArray
  | 0 => h
  | j + 1 => S j

theorem cmdF_fuel (S : Nat → ByteArray) (n : Nat) : ∀ (f g i : Nat), n ≤ f + i → n ≤ g + i → cmdF S n f i = cmdF S n g i
  | 0, g, i => fun h1 h2 => by rw [cmdF_end S n 0 i (by omega), cmdF_end S n g i (by omega)]
  | f + 1, 0, i => fun h1 h2 => by rw [cmdF_end S n _ i (by omega), cmdF_end S n 0 i (by omega)]
  | f + 1, g + 1, i => fun h1 h2 => by
    rw [cmdF, cmdF]
    rw [cmdF_fuel S n f g (i + 2) (by omega) (by omega), cmdF_fuel S n f g (i + 1) (by omega) (by omega)]
theorem cmdF_shift (T S : Nat → ByteArray) (n : Nat) (h : ∀ j, T (j + 1) = S j) : ∀ (f i : Nat), cmdF T (n + 1) f (i + 1) = cmdF S n f i
  | 0, i => rfl
  | f + 1, i => by
    rw [cmdF, cmdF, h i]
    have e2 : i + 1 + 2 = i + 2 + 1 := by omega
    rw [e2, cmdF_shift T S n h f (i + 2), cmdF_shift T S n h f (i + 1)]
    by_cases hi : i < n
    · rw [if_pos hi, if_pos (by omega)]
    · rw [if_neg hi, if_neg (by omega)]

theorem head_pass0 (h : ByteArray) (S : Nat → ByteArray) (hp : pass h = true) : cmdF (hd h S) (0 + 1) (0 + 1) 0 = ⟨#[]⟩ := by
  rw [cmdF_pass (by omega) hp]; rfl
theorem head_pass (h : ByteArray) (S : Nat → ByteArray) (m : Nat) (hp : pass h = true) : cmdF (hd h S) (m + 1 + 1) (m + 1 + 1) 0 = cmdF (fun j => S (j + 1)) m m 0 := by
  rw [cmdF_pass (by omega) hp, cmdF_shift (hd h S) S (m + 1) (fun _ => rfl), cmdF_shift S (fun j => S (j + 1)) m (fun _ => rfl)]
  exact cmdF_fuel _ m _ _ 0 (by omega) (by omega)
theorem head_dash (h : ByteArray) (S : Nat → ByteArray) (n : Nat) (hp : pass h = false) (hq : dash h = true) : cmdF (hd h S) (n + 1) (n + 1) 0 = cmdF S n n 0 := by
  rw [cmdF_dash (by omega) hp hq, cmdF_shift (hd h S) S n (fun _ => rfl)]
theorem head_hit (h : ByteArray) (S : Nat → ByteArray) (n : Nat) (hp : pass h = false) (hq : dash h = false) : cmdF (hd h S) (n + 1) (n + 1) 0 = h := by
  rw [cmdF_hit (by omega) hp hq]; rfl

theorem dash_hd {s : ByteArray} (h : 0 < s.size) : dash s = (((s[0]'h).toNat : Int) == 45) := by
  obtain ⟨⟨l⟩⟩ := s
  match l, h with
  | x :: l, h =>
    show Lib.hasPrefix (x :: l) [45] = ((x.toNat : Int) == 45)
    have e : Lib.hasPrefix (x :: l) [45] = (45 == x) := by simp [Lib.hasPrefix, List.isPrefixOf]
    rw [e, Bool.eq_iff_iff, beq_iff_eq, beq_iff_eq]
    constructor
    · intro h; subst h; rfl
    · intro h
      have h2 : x.toNat = (45 : UInt8).toNat := by
        have : (45 : UInt8).toNat = 45 := rfl
        omega
      exact (UInt8.toNat_inj.mp h2).symm
theorem dash_mt {s : ByteArray} (h : ¬ 0 < s.size) : dash s = false := by
  obtain ⟨⟨l⟩⟩ := s
  match l, h with
  | [], h => rfl
  | x :: l, h => exact absurd (Nat.succ_pos l.length) h

theorem zzcmd_nil (a : Option Addr) (c : Nat) (w : World) :
    Calls Try.prog 9 #[.slice a 0 c] w fun e w' => e = .returned (.string ⟨#[]⟩) ∧ w' = w := by
  go_enter Try.func9, Try.ntmps9
  go_wp2_with (go_at_call 13; refine (cmd_nil a c w).mono ?_; rintro e w' ⟨rfl, rfl⟩)
  go_ret
  exact ⟨rfl, rfl⟩

set_option maxHeartbeats 400000 in
theorem bytes11_some (h : ByteArray) (b off n c : Nat) (S : Nat → ByteArray) (w : World) (hh : h.size ≤ 1048576) (hS : ∀ j : Nat, (S j).size ≤ 9223372036854775807) (hn : h.size + n ≤ 1048576)
    (hc : ∀ j, j < n → w.cell? ⟨b, off + j, none⟩ = some (.string (S j))) :
    Calls Try.prog 11 #[.string h, .slice (some ⟨b, off, none⟩) n c] w fun e w' => Bit e ∧ w' = w := by
  have hd1 : decide ((1048576 : Int) < (h.size : Int)) = false := decide_eq_false (by omega)
  have hd2 : decide ((1048576 : Int) < (n : Int)) = false := decide_eq_false (by omega)
  have hd3 : decide ((1048576 : Int) < (h.size : Int) + (n : Int)) = false := decide_eq_false (by omega)
  go_enter Try.func11, Try.ntmps11
  go_wp2
  clear hd1 hd2 hd3
  go_loop [5, 6] (fun t p => ∃ k t' : Nat, k ≤ n ∧ t' ≤ 1048576 ∧ t = .int .i64 (t' : Int) ∧ p = .int .i64 (k : Int)) (fun _ p => n - (intOf p).toNat)
  case atStart => exact ⟨0, h.size + n, by omega, by omega, by go_num, rfl⟩
  case round =>
    obtain ⟨k, t, hk, ht, rfl, rfl⟩ := hrel
    by_cases hlt : k < n
    · have hcell := hc k hlt
      have hk2 := hS k
      clear hc hS
      by_cases h1 : (S k).size ≤ 1048576
      · by_cases h2 : t + (S k).size ≤ 1048576
        · go_wp2
          go_round
          case rel => exact ⟨k + 1, t + (S k).size, by omega, by omega, by go_num, by go_num⟩
          case measure => simp [intOf]; omega
        · go_wp2
          go_ret
          exact ⟨⟨_, rfl⟩, rfl⟩
      · go_wp2
        go_ret
        exact ⟨⟨_, rfl⟩, rfl⟩
    · clear hc hS
      go_wp2
      go_ret
      exact ⟨⟨_, rfl⟩, rfl⟩

set_option maxHeartbeats 400000 in
theorem bytes11_big (h : ByteArray) (a : Option Addr) (n c : Nat) (w : World) (hh : h.size ≤ 9223372036854775807) (hm : n ≤ 9223372036854775807) (hn : ¬ h.size + n ≤ 1048576) :
    Calls Try.prog 11 #[.string h, .slice a n c] w fun e w' => Bit e ∧ w' = w := by
  by_cases h1 : h.size ≤ 1048576
  · by_cases h2 : n ≤ 1048576
    · go_enter Try.func11, Try.ntmps11
      go_wp2
      go_ret
      exact ⟨⟨_, rfl⟩, rfl⟩
    · go_enter Try.func11, Try.ntmps11
      go_wp2
      go_ret
      exact ⟨⟨_, rfl⟩, rfl⟩
  · go_enter Try.func11, Try.ntmps11
    go_wp2
    go_ret
    exact ⟨⟨_, rfl⟩, rfl⟩

set_option maxHeartbeats 400000 in
theorem bytes11_nil (h : ByteArray) (a : Option Addr) (c : Nat) (w : World) (hn : h.size ≤ 1048576) :
    Calls Try.prog 11 #[.string h, .slice a 0 c] w fun e w' => Bit e ∧ w' = w := by
  go_enter Try.func11, Try.ntmps11
  go_wp2
  refine wp_loop_rounds 1 ?_
  rw [rounds_succ]
  go_wp2
  go_ret
  exact ⟨⟨_, rfl⟩, rfl⟩

theorem bytes11_row (h : ByteArray) (a : Option Addr) (n c : Nat) (S : Nat → ByteArray) (w : World) (hh : h.size ≤ 9223372036854775807) (hrow : SRow w a n S) :
    Calls Try.prog 11 #[.string h, .slice a n c] w fun e w' => Bit e ∧ w' = w := by
  obtain ⟨hm, hS, hr⟩ := hrow
  by_cases hn : h.size + n ≤ 1048576
  · rcases hr with rfl | ⟨b, off, rfl, hc⟩
    · exact bytes11_nil h a c w hn
    · exact bytes11_some h b off n c S w (by omega) hS hn hc
  · exact bytes11_big h a n c w hh hm hn

/-- The list of arguments, as far as it is built. -/
def pre (h : ByteArray) (S : Nat → ByteArray) (m : Nat) : List Value := (List.range m).map fun j => Value.string (hd h S j)
theorem pre_len (h : ByteArray) (S : Nat → ByteArray) (m : Nat) : (pre h S m).length = m := by simp [pre]
theorem pre_succ (h : ByteArray) (S : Nat → ByteArray) (m : Nat) : pre h S m ++ [.string (hd h S m)] = pre h S (m + 1) := by simp [pre, List.range_succ]
theorem pre_at (h : ByteArray) (S : Nat → ByteArray) (m j : Nat) (hj : j < m) : (pre h S m)[j]? = some (.string (hd h S j)) := by simp [pre, hj]

structure App (w1 : World) (go n k : Nat) (h : ByteArray) (S : Nat → ByteArray) (wr : World) : Prop where
  own : wr.ownsRow go 9 1 (.slice (some ⟨go, 0, none⟩) k (n + 1)) k (pre h S k)
  bel : Below w1.heap.size w1 wr
  lo : w1.heap.size ≤ go
  lt : go < wr.heap.size

theorem App.app {w1 : World} {go n k : Nat} {h : ByteArray} {S : Nat → ByteArray} {wr w2 : World} (O : Obj) (s : App w1 go n k h S wr)
    (ho : w2.ownsRow go 9 1 (.slice (some ⟨go, 0, none⟩) (k + 1) (n + 1)) (k + 1) (pre h S k ++ [.string (hd h S k)])) (hg : (wr.alloc O).grownBy w2 (some go)) : App w1 go n (k + 1) h S w2 := by
  have hlo := s.lt
  refine ⟨by rw [← pre_succ]; exact ho, ?_, s.lo, by have := hg.size; simp at this; omega⟩
  exact (s.bel.alloc s.bel.size O).grown hg (by simp; have := s.bel.size; omega) (fun k hk => by cases hk; exact s.lo)

theorem one_new (w : World) (s : ByteArray) : ∀ j u, ([.string s] : List Value)[j]? = some u → (w.alloc (.cells #[.string s] 9)).cell? ((⟨w.heap.size, 0, none⟩ : Addr).add j) = some u := by
  intro j u hj
  rw [Go.WideShapes.add_plain, Nat.zero_add, World.cell?_alloc_new]
  simpa using hj
theorem one_cell (s : ByteArray) : ∀ u ∈ ([.string s] : List Value), u.oneCell' = true := fun u hu => by
  simp at hu; subst hu; rfl

theorem App.row {w1 : World} {go n : Nat} {h : ByteArray} {S : Nat → ByteArray} {wr : World} (s : App w1 go n (n + 1) h S wr) (hn : n ≤ 65536) (hh : h.size ≤ 9223372036854775807) (hS : ∀ j : Nat, (S j).size ≤ 9223372036854775807) :
    SRow wr (some ⟨go, 0, none⟩) (n + 1) (hd h S) := by
  refine ⟨by omega, fun j => ?_, .inr ⟨go, 0, rfl, fun j hj => ?_⟩⟩
  · cases j
    · exact hh
    · exact hS _
  · rw [Nat.zero_add, s.own.cellAt j (by omega)]
    exact pre_at h S (n + 1) j hj
end Go.Proofs.Qxb6602727a
