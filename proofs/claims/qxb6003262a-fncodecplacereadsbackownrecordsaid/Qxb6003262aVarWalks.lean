/-
  The walks of the varint readers: longUvarintAt, uvarintAt, the model.
-/
import Derived.Test.Qxb6003262aProg
import Derived.Test.Qxb6003262aVarPlain
import Derived.WalkKit
import Derived.WalkSpells
namespace Go.Proofs.Qxb6003262a
set_option linter.unusedVariables false
open Go.RowKit

theorem ret2_of {k1 k2 : IntKind} {a b c d : Int} (h1 : a = c) (h2 : b = d) : Ending.returned (.tuple #[.int k1 a, .int k2 b]) = .returned (.tuple #[.int k1 c, .int k2 d]) := by rw [h1, h2]

set_option maxHeartbeats 400000 in
theorem long_any (b off n c : Nat) (zs : List Int) (i : Nat) (w : World) (hn : n ≤ 1099511627776) (hi : (i : Int) ≤ 9223372036854775807)
    (hc : ∀ j, j < n → w.cell? ⟨b, off + j, none⟩ = some (.int .u8 (zs[j]?.getD 0))) (hr : ∀ j : Nat, 0 ≤ zs[j]?.getD 0 ∧ zs[j]?.getD 0 ≤ 255) :
    Calls Try.prog 28 #[.slice (some ⟨b, off, none⟩) n c, .int .i64 i] w fun e w' => e = .returned (.tuple #[.int .u64 (uv zs n i).1, .int .i64 (uv zs n i).2]) ∧ w' = w := by
  go_enter Try.func28, Try.ntmps28
  go_wp2
  go_loop [1, 6, 7] (fun p v s => ∃ (k : Nat) (X : Int), k ≤ 10 ∧ (k = 0 ∨ i + k ≤ n) ∧ p = .int .i64 ((i + k : Nat) : Int) ∧ v = .int .u64 X ∧ s = .int .u64 ((7 * k : Nat) : Int) ∧ Hid (X = val zs k i % 18446744073709551616) ∧ Hid (find zs n i 10 0 = find zs n i (10 - k) k)) (fun _ _ s => 70 - (intOf s).toNat)
  case atStart => exact ⟨0, 0, by omega, .inl rfl, by go_num, rfl, rfl, rfl, rfl⟩
  case round =>
    obtain ⟨k, X, hk, hin, rfl, rfl, rfl, HX, HF⟩ := hrel
    by_cases hlt : k < 10 ∧ i + k < n
    · obtain ⟨h10, hlt⟩ := hlt
      have hcell := hc (i + k) hlt
      have hrk := hr (i + k)
      clear hc hr
      go_wp2
      · go_ret2
        have hb : zs[i + k]?.getD 0 < 128 := by assumption
        exact ⟨ret2_of (by rw [uv, HF.out, find_hit h10 hlt hb]; exact long_walk (by omega) HX.out hrk) (by rw [uv, HF.out, find_hit h10 hlt hb]), rfl⟩
      · go_round
        case rel =>
          have hb : 128 ≤ zs[i + k]?.getD 0 := by assumption
          exact ⟨k + 1, _, by omega, by omega, by go_num, rfl, by go_num, long_walk (by omega) HX.out hrk, HF.out.trans (find_go h10 hlt hb)⟩
        case measure => simp [intOf]; omega
    · by_cases h10 : k < 10
      · have hge : n ≤ i + k := by omega
        clear hc hr hlt
        go_wp2
        go_ret2
        exact ⟨ret2_of (by rw [uv, HF.out, find_end hge]) (by rw [uv, HF.out, find_end hge]), rfl⟩
      · clear hc hr hlt
        go_wp2
        go_ret2
        exact ⟨ret2_of (by rw [uv, HF.out, find_ten (by omega)]) (by rw [uv, HF.out, find_ten (by omega)]), rfl⟩

theorem uv_nil (zs : List Int) (i : Nat) : uv zs 0 i = (0, 1) := by
  rw [uv, find_end (k := 0) (by omega)]; rfl

set_option maxHeartbeats 400000 in
theorem long_nil (a : Option Addr) (c : Nat) (zs : List Int) (i : Nat) (w : World) (hi : (i : Int) ≤ 9223372036854775807) :
    Calls Try.prog 28 #[.slice a 0 c, .int .i64 i] w fun e w' => e = .returned (.tuple #[.int .u64 (uv zs 0 i).1, .int .i64 (uv zs 0 i).2]) ∧ w' = w := by
  rw [uv_nil]
  go_enter Try.func28, Try.ntmps28
  go_wp2
  refine wp_loop_rounds 1 ?_
  rw [rounds_succ]
  go_wp2
  go_ret2
  exact ⟨rfl, rfl⟩

/-- The bytes of a slice, as they lie. -/
def Row8 (w : World) (a : Option Addr) (n : Nat) (zs : List Int) : Prop :=
  n ≤ 1099511627776 ∧ (∀ j : Nat, 0 ≤ zs[j]?.getD 0 ∧ zs[j]?.getD 0 ≤ 255) ∧
  (n = 0 ∨ ∃ b off, a = some ⟨b, off, none⟩ ∧ ∀ j, j < n → w.cell? ⟨b, off + j, none⟩ = some (.int .u8 (zs[j]?.getD 0)))

theorem long_row (a : Option Addr) (n c : Nat) (zs : List Int) (i : Nat) (w : World) (hi : (i : Int) ≤ 9223372036854775807) (hrow : Row8 w a n zs) :
    Calls Try.prog 28 #[.slice a n c, .int .i64 i] w fun e w' => e = .returned (.tuple #[.int .u64 (uv zs n i).1, .int .i64 (uv zs n i).2]) ∧ w' = w := by
  obtain ⟨hn, hr, rfl | ⟨b, off, rfl, hc⟩⟩ := hrow
  · exact long_nil a c zs i w hi
  · exact long_any b off n c zs i w hn hi hc hr

theorem zzlong_row (a : Option Addr) (n c : Nat) (zs : List Int) (i : Nat) (w : World) (hi : (i : Int) ≤ 9223372036854775807) (hrow : Row8 w a n zs) :
    Calls Try.prog 11 #[.slice a n c, .int .i64 i] w fun e w' => e = .returned (.tuple #[.int .u64 (uv zs n i).1, .int .i64 (uv zs n i).2]) ∧ w' = w := by


  go_enter Try.func11, Try.ntmps11
  go_wp2_with (go_at_call 28; refine (long_row _ n c zs i w hi hrow).mono ?_; rintro e w' ⟨rfl, rfl⟩)
  go_ret2
  exact ⟨rfl, rfl⟩

theorem two_bytes {x y : Int} (hx : 128 ≤ x ∧ x ≤ 255) (hy : 0 ≤ y ∧ y < 128) :
    bits .or .u64 (IntKind.u64.wrap (bits .and .u8 x 127)) (y * 128) = x % 128 + y * 128 := by
  rw [u8_and127 _ (by omega) (by omega), IntKind.wrap_u64, u64_orv7 _ _ (by omega) (by omega) (by omega) (by omega) (by omega)]
  omega

set_option maxHeartbeats 400000 in
theorem uvarint_row (a : Option Addr) (n c : Nat) (zs : List Int) (i : Nat) (w : World) (hi : (i : Int) ≤ 9223372036854775807) (hrow : Row8 w a n zs) :
    Calls Try.prog 29 #[.slice a n c, .int .i64 i] w fun e w' => e = .returned (.tuple #[.int .u64 (uv zs n i).1, .int .i64 (uv zs n i).2]) ∧ w' = w := by

  obtain ⟨hn, hr, hh⟩ := id hrow
  by_cases hlt : i + 1 < n
  · obtain rfl | ⟨b, off, rfl, hc⟩ := hh
    · omega
    have hc0 := hc i (by omega)
    have hc1 := hc (i + 1) (by omega)
    have hr0 := hr i
    have hr1 := hr (i + 1)
    clear hc hr
    by_cases h0 : zs[i]?.getD 0 < 128
    · go_enter Try.func29, Try.ntmps29
      go_wp2_with (go_at_call 28; refine (long_row _ n c zs i w hi hrow).mono ?_; rintro e w' ⟨rfl, rfl⟩)
      go_ret2
      exact ⟨ret2_of (by rw [uv_one (by omega) hr0.1 h0]) (by rw [uv_one (by omega) hr0.1 h0]), rfl⟩
    · by_cases h1 : zs[i + 1]?.getD 0 < 128
      · go_enter Try.func29, Try.ntmps29
        go_wp2_with (go_at_call 28; refine (long_row _ n c zs i w hi hrow).mono ?_; rintro e w' ⟨rfl, rfl⟩)
        go_ret2
        exact ⟨ret2_of (by rw [uv_two hlt (by omega) hr1.1 h1]; exact two_bytes ⟨by omega, hr0.2⟩ ⟨hr1.1, h1⟩) (by rw [uv_two hlt (by omega) hr1.1 h1]), rfl⟩
      · go_enter Try.func29, Try.ntmps29
        go_wp2_with (go_at_call 28; refine (long_row _ n c zs i w hi hrow).mono ?_; rintro e w' ⟨rfl, rfl⟩)
        go_ret2
        exact ⟨rfl, rfl⟩
  · go_enter Try.func29, Try.ntmps29
    go_wp2_with (go_at_call 28; refine (long_row _ n c zs i w hi hrow).mono ?_; rintro e w' ⟨rfl, rfl⟩)
    go_ret2
    exact ⟨rfl, rfl⟩

theorem zzuvarint_row (a : Option Addr) (n c : Nat) (zs : List Int) (i : Nat) (w : World) (hi : (i : Int) ≤ 9223372036854775807) (hrow : Row8 w a n zs) :
    Calls Try.prog 16 #[.slice a n c, .int .i64 i] w fun e w' => e = .returned (.tuple #[.int .u64 (uv zs n i).1, .int .i64 (uv zs n i).2]) ∧ w' = w := by
  go_enter Try.func16, Try.ntmps16
  go_wp2_with (go_at_call 29; refine (uvarint_row _ n c zs i w hi hrow).mono ?_; rintro e w' ⟨rfl, rfl⟩)
  go_ret2
  exact ⟨rfl, rfl⟩

set_option maxHeartbeats 400000 in
theorem model_row (a : Option Addr) (n c : Nat) (zs : List Int) (i : Nat) (w : World) (hi : (i : Int) ≤ 9223372036854775807) (hrow : Row8 w a n zs) :
    Calls Try.prog 12 #[.slice a n c, .int .i64 i] w fun e w' => e = .returned (.tuple #[.int .u64 (uv zs n i).1, .int .i64 (uv zs n i).2]) ∧ w' = w := by
  obtain ⟨hn, hr, hh⟩ := id hrow
  by_cases hlt : i < n
  · obtain rfl | ⟨b, off, rfl, hc⟩ := hh
    · omega
    clear hrow
    go_enter Try.func12, Try.ntmps12
    go_wp2
    go_loop [6, 7] (fun en q => ∃ k : Nat, k ≤ 10 ∧ i + k ≤ n ∧ q = .int .i64 (k : Int) ∧ en = .int .i64 (-1) ∧ Hid (find zs n i 10 0 = find zs n i (10 - k) k)) (fun _ q => 10 - (intOf q).toNat)
    case atStart => exact ⟨0, by omega, by omega, rfl, rfl, rfl⟩
    case round =>
      obtain ⟨k, hk, hin, rfl, rfl, HF⟩ := hrel
      by_cases hlt : k < 10 ∧ i + k < n
      · obtain ⟨h10, hlt⟩ := hlt
        have hcell := hc (i + k) hlt
        have hrk := hr (i + k)
        by_cases hb : zs[i + k]?.getD 0 < 128
        · go_wp2
          go_loop [8, 9] (fun v q => ∃ (m : Nat) (X : Int), m ≤ k + 1 ∧ q = .int .i64 ((i : Int) + m - 1) ∧ v = .int .u64 X ∧ Hid (X = val zs (k + 1 - m) (i + m) % 18446744073709551616)) (fun _ q => ((intOf q) + 1).toNat)
          case atStart => exact ⟨k + 1, 0, by omega, by go_num, rfl, by show (0 : Int) = _; rw [show k + 1 - (k + 1) = 0 by omega]; rfl⟩
          case round =>
            obtain ⟨m, X, hm, rfl, rfl, HX⟩ := hrel
            match m, hm, HX with
            | 0, hm, HX =>
              go_wp2
              go_ret2
              exact ⟨ret2_of (by rw [uv, HF.out, find_hit h10 hlt hb]; exact HX.out) (by rw [uv, HF.out, find_hit h10 hlt hb]), rfl⟩
            | m + 1, hm, HX =>
              have e : ((i : Int) + ((m + 1 : Nat) : Int) - 1) = ((i + m : Nat) : Int) := by omega
              rw [e]
              have hcell2 := hc (i + m) (by omega)
              have hrm := hr (i + m)
              clear hc hr e
              go_wp2
              go_round
              case rel =>
                exact ⟨m, _, by omega, by go_num, rfl, (fold_walk (p := i + m) (c := k + 1 - (m + 1)) HX.out hrm).trans (by rw [show k + 1 - (m + 1) + 1 = k + 1 - m by omega])⟩
              case measure => simp [intOf]; omega
        · go_wp2
          go_round
          case rel => exact ⟨k + 1, by omega, by omega, by omega, HF.out.trans (find_go h10 hlt (by omega))⟩
          case measure => simp [intOf]; omega
      · by_cases h10 : k < 10
        · have hge : n ≤ i + k := by omega
          clear hc hr hlt
          go_wp2
          go_ret2
          exact ⟨ret2_of (by rw [uv, HF.out, find_end hge]) (by rw [uv, HF.out, find_end hge]), rfl⟩
        · clear hc hr hlt
          go_wp2
          go_ret2
          exact ⟨ret2_of (by rw [uv, HF.out, find_ten (by omega)]) (by rw [uv, HF.out, find_ten (by omega)]), rfl⟩
  · have hf : find zs n i 10 0 = none := find_end (k := 0) (by omega)
    have HF := (show Hid (find zs n i 10 0 = none) from hf)
    clear hh hr hrow hf
    go_enter Try.func12, Try.ntmps12
    go_wp2
    go_ret2
    exact ⟨ret2_of (by rw [uv, HF.out]) (by rw [uv, HF.out]), rfl⟩
end Go.Proofs.Qxb6003262a
