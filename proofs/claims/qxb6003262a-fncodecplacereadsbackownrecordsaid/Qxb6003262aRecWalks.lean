/-
  The walks of the record's small functions: zzAppendUv, zzZig, unzigzag.
-/
import Derived.Test.Qxb6003262aCopy
import Derived.Test.Qxb6003262aRecPlain
import Derived.Lib.Varint
namespace Go.Proofs.Qxb6003262a
set_option linter.unusedVariables false
open Go.RowKit

theorem ret_int {k : IntKind} {a b : Int} (h : a = b) : Ending.returned (.int k a) = .returned (.int k b) := by rw [h]

theorem zig_any (d : Int) (w : World) (h0 : -9223372036854775808 ≤ d) (h1 : d ≤ 9223372036854775807) :
    Calls Try.prog 18 #[.int .i64 d] w fun e w' => e = .returned (.int .u64 ((zz d : Nat) : Int)) ∧ w' = w := by
  by_cases h : 0 ≤ d
  · go_enter Try.func18, Try.ntmps18
    go_wp2
    go_ret
    refine ⟨ret_int ?_, rfl⟩
    unfold zz; rw [if_pos h]; omega
  · go_enter Try.func18, Try.ntmps18
    go_wp2
    go_ret
    refine ⟨ret_int ?_, rfl⟩
    unfold zz; rw [if_neg (by omega)]; omega

set_option maxHeartbeats 400000 in
theorem unzig_any (d : Int) (w : World) (h0 : -9223372036854775808 ≤ d) (h1 : d ≤ 9223372036854775807) :
    Calls Try.prog 36 #[.int .u64 ((zz d : Nat) : Int)] w fun e w' => e = .returned (.int .i64 d) ∧ w' = w := by
  obtain ⟨z, hz⟩ : ∃ z, z = zz d := ⟨_, rfl⟩
  have hlt : z < 18446744073709551616 := by rw [hz]; exact zz_lt h0 h1
  rw [← hz]
  have HZ : Hid (z = zz d) := hz
  clear hz
  go_enter Try.func36, Try.ntmps36
  go_wp2
  go_ret
  refine ⟨ret_int ?_, rfl⟩
  rw [Lib.u64_and1 _ (by omega) (by omega)]
  have h2 : ((z : Int) / 2) = ((z / 2 : Nat) : Int) := by omega
  rw [h2]
  have hz := HZ.out
  unfold zz at hz
  by_cases h : 0 ≤ d
  · rw [if_pos h] at hz
    have e : wrap64 (-wrap64 ((z : Int) % 2)) = 0 := by
      have : (z : Int) % 2 = 0 := by omega
      rw [this]; unfold wrap64; omega
    rw [e, i64_xor_zero _ (by omega)]; omega
  · rw [if_neg h] at hz
    have e : wrap64 (-wrap64 ((z : Int) % 2)) = -1 := by
      have : (z : Int) % 2 = 1 := by omega
      rw [this]; unfold wrap64; omega
    rw [e, i64_xor_neg _ (by omega)]; omega

set_option maxRecDepth 20000 in
set_option maxHeartbeats 400000 in
theorem app_any (g n cap : Nat) (xs : List Value) (v : Nat) (w : World) (hv : v < 18446744073709551616) (hcap : n + 10 ≤ cap) (hc : cap ≤ 1000) (hg : g < w.heap.size)
    (hown : w.ownsRow g 5 1 (.slice (some ⟨g, 0, none⟩) n cap) n xs) :
    Calls Try.prog 14 #[.slice (some ⟨g, 0, none⟩) n cap, .int .u64 v] w fun e w' =>
      e = .returned (.slice (some ⟨g, 0, none⟩) (n + (enc 9 v).length) cap) ∧ w'.ownsRow g 5 1 (.slice (some ⟨g, 0, none⟩) (n + (enc 9 v).length) cap) (n + (enc 9 v).length) (xs ++ (enc 9 v).map (Value.int .u8)) ∧ Below g w w' := by
  obtain ⟨i0, hi, hz0, hz1, hz2⟩ := info_parts Try.info5
  go_enter Try.func14, Try.ntmps14
  go_wp2
  go_loopw [0, 1] (fun o q wr => ∃ (k x : Nat) (ys : List Int), k ≤ 9 ∧ ys.length = k ∧ o = .slice (some ⟨g, 0, none⟩) (n + k) cap ∧ q = .int .u64 (x : Int) ∧ wr.ownsRow g 5 1 (.slice (some ⟨g, 0, none⟩) (n + k) cap) (n + k) (xs ++ ys.map (Value.int .u8)) ∧ Below g w wr ∧ Hid (x = v / 128 ^ k) ∧ Hid (ys ++ enc (9 - k) x = enc 9 v)) (fun _ q _ => (intOf q).toNat)
  case atStart => exact ⟨0, v, [], by omega, rfl, rfl, rfl, by simpa using hown, Below.refl _ _, by show v = _; simp, rfl⟩
  case round =>
    obtain ⟨k, x, ys, hk, hy, rfl, rfl, ho, hb, HX, HE⟩ := hrel
    have hgw : g < wr.heap.size := by have := hb.size; omega
    have hx : x < 18446744073709551616 := by have := HX.out; have h2 := Nat.div_le_self v (128 ^ k); omega
    by_cases hlt : 128 ≤ x
    · have hk8 : k ≤ 8 := by
        have hX := HX.out
        rcases Nat.lt_or_ge k 9 with h | h
        · omega
        · obtain rfl : k = 9 := by omega
          have : (128 : Nat) ^ 9 = 9223372036854775808 := by decide
          omega
      go_wp2_with (at_builtin; refine wpList_append_fits _ rfl (.tmp 7) (.tmp 11) 22 rfl g 5 i0 1 Try.underlying22 hi hz1 g (n + k) cap (xs ++ ys.map (Value.int .u8)) rfl (ho.alloc _) ⟨wr.heap.size, 0, none⟩ 1 1 [.int .u8 (bits BinOp.or IntKind.u8 ((x : Int) % 256) 128)] rfl rfl (cell_one_new _ _ _) (by intro u hu; simp at hu; subst hu; rfl) (by omega) ?_; intro w1 ho1 hg1)
      have hb1 : Below g w w1 := (hb.alloc (by omega) _).grown hg1 (by simp; omega) (fun j hj => by cases hj; exact Nat.le_refl _)
      have ebit : bits BinOp.or IntKind.u8 ((x : Int) % 256) 128 = ((x % 128 + 128 : Nat) : Int) := by
        rw [Lib.u8_or128_any _ (by omega) (by omega)]; omega
      rw [ebit, List.append_assoc, show [Value.int IntKind.u8 ((x % 128 + 128 : Nat) : Int)] = [((x % 128 + 128 : Nat) : Int)].map (Value.int .u8) from rfl, ← List.map_append] at ho1
      have HO : Hid (w1.ownsRow g 5 1 (.slice (some ⟨g, 0, none⟩) (n + k + 1) cap) (n + k + 1) (xs ++ (ys ++ [((x % 128 + 128 : Nat) : Int)]).map (Value.int .u8))) := ho1
      clear ho1 hg1 ebit ho hb
      go_wp2
      go_roundw
      case rel =>
        refine ⟨k + 1, x / 128, ys ++ [((x % 128 + 128 : Nat) : Int)], by omega, by simp [hy], by simp [Nat.add_assoc], by go_num, HO.out, hb1, ?_, ?_⟩
        · show x / 128 = v / 128 ^ (k + 1)
          rw [HX.out, Nat.div_div_eq_div_mul, Nat.pow_succ]
        · show _ = _
          rw [← HE.out, List.append_assoc, show 9 - k = 9 - (k + 1) + 1 by omega, enc_big hlt]; rfl
      case measure => simp [intOf]; omega
    · go_wp2_with (at_builtin; refine wpList_append_fits _ rfl (.tmp 15) (.tmp 18) 22 rfl g 5 i0 1 Try.underlying22 hi hz1 g (n + k) cap (xs ++ ys.map (Value.int .u8)) rfl (ho.alloc _) ⟨wr.heap.size, 0, none⟩ 1 1 [.int .u8 ((x : Nat) : Int)] rfl rfl (cell_one_new _ _ _) (by intro u hu; simp at hu; subst hu; rfl) (by omega) ?_; intro w1 ho1 hg1)
      have hb1 : Below g w w1 := (hb.alloc (by omega) _).grown hg1 (by simp; omega) (fun j hj => by cases hj; exact Nat.le_refl _)
      have hL : enc 9 v = ys ++ [((x : Nat) : Int)] := by rw [← HE.out, enc_small (by omega)]
      have hll : (enc 9 v).length = k + 1 := by rw [hL]; simp [hy]
      rw [List.append_assoc, show [Value.int IntKind.u8 ((x : Nat) : Int)] = [((x : Nat) : Int)].map (Value.int .u8) from rfl, ← List.map_append, ← hL] at ho1
      have HO : Hid (w1.ownsRow g 5 1 (.slice (some ⟨g, 0, none⟩) (n + k + 1) cap) (n + k + 1) (xs ++ (enc 9 v).map (Value.int .u8))) := ho1
      clear ho1 hg1 ho hb
      have HL : Hid ((enc 9 v).length = k + 1) := hll
      clear hL hll
      go_wp2
      go_ret
      rw [HL.out]
      exact ⟨rfl, HO.out, hb1⟩
end Go.Proofs.Qxb6003262a
