/-
  The walk of toStrings.
-/
import Derived.Test.Qxb6603151aWrite
import Derived.Test.Qxb6603151aText
import Derived.Laws.AppendOwnNone
import Derived.ArgAppend
namespace Go.Proofs.Qxb6603151a
set_option linter.unusedVariables false
open Go.RowKit

set_option maxHeartbeats 2000000 in
theorem write_nil (B b : Nat) (bs : List Value) (w : World) (h : Lib.IsBuilder 50 5 B b bs w) (hBw : B ≤ w.heap.size) :
    Calls Try.prog 28 #[.pointer (some ⟨b, 0, none⟩), .slice none 0 0] w fun e w' => e = .returned (.tuple #[.int .i64 0, .nilIface]) ∧ (Lib.BuilderAt 50 5 B b (.pointer (some ⟨b, 0, none⟩)) bs w' ∧ Below B w w') := by
  obtain ⟨i0, hi, hz0, hz1, hz2⟩ := info_parts Try.info5
  go_enter Try.func28, Try.ntmps28
  go_wp2_with (go_at_call 31; refine (check B b bs _ h).mono ?_)
  rintro e w1 ⟨rfl, h1, hb1⟩
  obtain ⟨hB, v, hbk, hown, hne⟩ := h1
  have c0 : w1.cell? ⟨b, 0, none⟩ = some (.pointer (some ⟨b, 0, none⟩)) := by rw [Lib.cell_of_heap hbk]; rfl
  have c1 : w1.cell? ⟨b, 1, none⟩ = some v := by rw [Lib.cell_of_heap hbk]; rfl
  have f1 := Lib.frozen_of_heap hbk 1
  obtain ⟨ao, cap, rfl⟩ := own_form hown
  go_wp2_with (at_builtin; refine wpList_append_own_none rfl (.tmp 12) (.tmp 13) 41 rfl B 5 i0 1 Try.underlying41 hi (.slice ao bs.length cap) bs.length bs rfl hown rfl ?_)
  go_ret2
  refine ⟨rfl, ?_, ?_⟩
  · exact Lib.BuilderAt.put (T := 50) (e := 5) hB hbk (bs' := bs) hown (by decide)
  · exact hb1.setCell (p := ⟨b, 1, none⟩) hB _

/-- Write's answer is thrown away. -/
def Wrote (e : Ending) : Prop := ∃ m : Int, e = .returned (.tuple #[.int .i64 m, .nilIface])

theorem write (B b : Nat) (f : Fd) (bs : List Value) (w : World) (h : Lib.IsBuilder 50 5 B b bs w) (hlen : bs.length + f.n ≤ 140737488355328) (hBw : B ≤ w.heap.size)
    (hf : FIn w f) (ha : f.a = none ∨ ∃ fb, f.a = some ⟨fb, 0, none⟩ ∧ fb < B) :
    Calls Try.prog 28 #[.pointer (some ⟨b, 0, none⟩), .slice f.a f.n f.c] w fun e w' => Wrote e ∧ (Lib.IsBuilder 50 5 B b (bs ++ f.zs.map (Value.int .u8)) w' ∧ Below B w w') := by
  obtain ⟨a, n, c, zs⟩ := f
  rcases ha with ha | ⟨fb, ha, hfb⟩
  · have ha' : a = none := ha
    obtain ⟨h1, h2⟩ := hf.nil ha
    have h1' : n = 0 := h1
    have h2' : c = 0 := h2
    have hz : zs = [] := List.eq_nil_of_length_eq_zero (by rw [← h1']; exact hf.len)
    subst ha' h1' h2' hz
    refine (write_nil B b bs w h hBw).mono ?_
    rintro e w' ⟨rfl, h1, h2⟩
    exact ⟨⟨_, rfl⟩, .inr (by simpa using h1), h2⟩
  · have ha' : a = some ⟨fb, 0, none⟩ := ha
    subst ha'
    refine (write_some B b fb 0 n c bs zs w h hlen hBw hf.len hfb ?_).mono ?_
    · intro j hj
      rcases hf.row with h0 | ⟨b', off, e, hc⟩
      · have h0' : n = 0 := h0
        omega
      · cases e
        exact hc j hj
    · rintro e w' ⟨rfl, h1, h2⟩
      exact ⟨⟨_, rfl⟩, .inr h1, h2⟩

theorem cells_bytes (zs : List Int) (h : ∀ z ∈ zs, 0 ≤ z ∧ z ≤ 255) : zs.map (Value.int .u8) = Lib.byteCells (zs.map fun z => UInt8.ofNat z.toNat) := by
  unfold Lib.byteCells
  rw [List.map_map]
  refine List.map_congr_left fun z hz => ?_
  have := h z hz
  show Value.int .u8 z = Value.int .u8 ((UInt8.ofNat z.toNat).toNat : Int)
  congr 1
  simp
  omega

/-- The answer's strings. -/
def outS (d n : Nat) (S : Nat → ByteArray) (G : Nat → Fd) (j : Nat) : ByteArray := if j < d then S j else if j < d + n then strOf (G (j - d)).zs else ⟨#[]⟩
def lst (d : Nat) (S : Nat → ByteArray) (G : Nat → Fd) (k : Nat) : List Value := (List.range d).map (fun j => Value.string (S j)) ++ (List.range k).map (fun j => Value.string (strOf (G j).zs))
theorem lst_succ (d : Nat) (S : Nat → ByteArray) (G : Nat → Fd) (k : Nat) : lst d S G k ++ [.string (strOf (G k).zs)] = lst d S G (k + 1) := by simp [lst, List.range_succ]
theorem lst_len (d : Nat) (S : Nat → ByteArray) (G : Nat → Fd) (k : Nat) : (lst d S G k).length = d + k := by simp [lst]
theorem lst_at (d n : Nat) (S : Nat → ByteArray) (G : Nat → Fd) (j : Nat) (hj : j < d + n) : (lst d S G n)[j]? = some (.string (outS d n S G j)) := by
  unfold lst outS
  by_cases h : j < d
  · rw [List.getElem?_append_left (by simpa using h)]
    simp [h]
  · rw [List.getElem?_append_right (by simp; omega)]
    have h2 : j - d < n := by omega
    simp [h, hj, h2]
theorem lst_zero (d : Nat) (S : Nat → ByteArray) (G : Nat → Fd) (j : Nat) (u : Value) (h : (lst d S G 0)[j]? = some u) : j < d ∧ u = .string (S j) := by
  have hj : j < d := by
    rcases Nat.lt_or_ge j d with h' | h'
    · exact h'
    · rw [List.getElem?_eq_none (by rw [lst_len]; omega)] at h; cases h
  refine ⟨hj, ?_⟩
  simp [lst, hj] at h
  exact h.symm

theorem own_le {w : World} {base base' n : Nat} {v : Value} {xs : List Value} (h : w.ownsRow base 9 1 v n xs) (hb : base' ≤ base) : w.ownsRow base' 9 1 v n xs := by
  refine ⟨h.1, ?_⟩
  rcases h.2 with h | ⟨g, cap, cur, hv, h1, r⟩
  · exact .inl h
  · exact .inr ⟨g, cap, cur, hv, by omega, r⟩
theorem own_some {w : World} {base n : Nat} {v : Value} {xs : List Value} (h : w.ownsRow base 9 1 v n xs) (hn : 0 < n) : ∃ g cap, v = .slice (some ⟨g, 0, none⟩) n cap := by
  rcases h.2 with ⟨_, h⟩ | ⟨g, cap, cur, hv, _⟩
  · omega
  · exact ⟨g, cap, hv⟩
theorem FIn.below {w w' : World} {f : Fd} (h : FIn w f) (hB : Below w.heap.size w w') : FIn w' f := by
  refine ⟨h.len, h.max, h.byte, h.nil, ?_⟩
  rcases h.row with h0 | ⟨b, off, e, hc⟩
  · exact .inl h0
  · exact .inr ⟨b, off, e, fun j hj => by have h := hc j hj; rw [hB.cell (World.block_lt_of_cell? _ _ h)]; exact h⟩

theorem RRow.below {w w' : World} {a : Option Addr} {n : Nat} {F : Nat → Fd} (h : RRow w a n F) (hB : Below w.heap.size w w') : RRow w' a n F := by
  refine ⟨h.max, ?_, fun j hj => (h.fld j hj).below hB⟩
  rcases h.row with h0 | ⟨b, off, e, hc⟩
  · exact .inl h0
  · exact .inr ⟨b, off, e, fun j hj => by have h := hc j hj; rw [hB.cell (World.block_lt_of_cell? _ _ h)]; exact h⟩

theorem one_new (w : World) (s : ByteArray) : ∀ j u, ([.string s] : List Value)[j]? = some u → (w.alloc (.cells #[.string s] 9)).cell? ((⟨w.heap.size, 0, none⟩ : Addr).add j) = some u := by
  intro j u hj
  rw [Go.WideShapes.add_plain, Nat.zero_add, World.cell?_alloc_new]
  simpa using hj
theorem one_cell (s : ByteArray) : ∀ u ∈ ([.string s] : List Value), u.oneCell' = true := fun u hu => by
  simp at hu; subst hu; rfl

/-- The answer, as far as it is built. -/
def DV (w : World) (ad : Option Addr) (d : Nat) (S : Nat → ByteArray) (G : Nat → Fd) (k : Nat) (v : Value) (wr : World) : Prop :=
  Below w.heap.size w wr ∧ ((k = 0 ∧ v = .slice ad d d) ∨ (0 < k ∧ ∃ g c, v = .slice (some ⟨g, 0, none⟩) (d + k) c ∧ wr.ownsRow w.heap.size 9 1 v (d + k) (lst d S G k)))

/-- What toStrings answers. -/
def Tos (w : World) (ad : Option Addr) (d n : Nat) (S : Nat → ByteArray) (G : Nat → Fd) (e : Ending) (w' : World) : Prop :=
  ∃ a' c', e = .returned (.slice a' (d + n) c') ∧ SRow w' a' (d + n) (outS d n S G) ∧ (a' = none ↔ ad = none ∧ n = 0) ∧ Below w.heap.size w w'

theorem seq_cons (G : Nat → Fd) (k n : Nat) (h : k < n) : restF G k (n - k) = (G k).zs ++ restF G (k + 1) (n - (k + 1)) := by
  have e : n - k = (n - (k + 1)) + 1 := by omega
  rw [e, restF]

set_option maxHeartbeats 2000000 in
theorem tos_some (b off n cr : Nat) (ad : Option Addr) (d : Nat) (G : Nat → Fd) (S : Nat → ByteArray) (w : World) (hn : n ≤ 65536) (hn0 : 0 < n) (hd : d ≤ 65536)
    (hG : ∀ j, j < n → FIn w (G j)) (hG2 : ∀ j, j < n → (G j).n ≤ 1048576) (hGa : ∀ j, j < n → (G j).a = none ∨ ∃ fb, (G j).a = some ⟨fb, 0, none⟩ ∧ fb < w.heap.size)
    (hc : ∀ j, j < n → w.cell? ⟨b, off + j, none⟩ = some (.slice (G j).a (G j).n (G j).c)) (hdn : ad = none → d = 0) (hS : SRow w ad d S) :
    Calls Try.prog 25 #[.slice (some ⟨b, off, none⟩) n cr, .slice ad d d] w fun e w' => Tos w ad d n S G e w' := by
  obtain ⟨i0, hi, hz0, hz1, hz2⟩ := info_parts Try.info9
  have hbig : ∀ k, k ≤ n → ((doneF G k).map (Value.int .u8)).length ≤ 1048576 * k := fun k hk => by
    rw [List.length_map]; exact done_len G n (fun j hj => by rw [(hG j hj).len]; exact hG2 j hj) k hk
  go_enter Try.func25, Try.ntmps25
  go_wp2
  go_loopw [13] (fun q wr => ∃ k : Nat, k ≤ n ∧ q = .int .i64 (k : Int) ∧ Lib.IsBuilder 50 5 w.heap.size w.heap.size ((doneF G k).map (Value.int .u8)) wr ∧ Below w.heap.size w wr ∧ w.heap.size < wr.heap.size) (fun q _ => n - (intOf q).toNat)
  case atStart => exact ⟨0, by omega, rfl, Lib.fresh_isBuilder 50 5 w, (Below.refl _ _).alloc (Nat.le_refl _) _, by simp⟩
  case round =>
    obtain ⟨k, hk, rfl, HB, hbel, hsz⟩ := hrel
    by_cases hlt : k < n
    · have hcell : wr.cell? ⟨b, off + k, none⟩ = some (.slice (G k).a (G k).n (G k).c) := by
        have h := hc k hlt
        rw [hbel.cell (World.block_lt_of_cell? _ _ h)]; exact h
      have hF := FIn.below (hG k hlt) hbel
      have hF2 := hG2 k hlt
      have hFa := hGa k hlt
      have hl := hbig k hk
      clear hc hG hG2 hGa hS hbig
      go_wp2_with fail
      refine (write w.heap.size w.heap.size (G k) _ wr HB (by omega) (by omega) hF hFa).mono ?_
      rintro e w2 ⟨⟨m, rfl⟩, HB2, hb2⟩
      have hs2 := hb2.size
      go_wp2
      go_roundw
      case rel => exact ⟨k + 1, by omega, by go_num, by rw [doneF, List.map_append]; exact HB2, hbel.trans hb2, by omega⟩
      case measure => simp [intOf]; omega
    · obtain rfl : n = k := by omega
      have hby := done_byte G n (fun j hj => byte_mem (hG j hj).byte) n (Nat.le_refl _)
      rw [cells_bytes _ hby] at HB
      clear hby
      go_wp2_with fail
      refine (Try.Builder_String_any _ _ _ wr HB (by omega)).mono ?_
      rintro e w3 ⟨rfl, hb3⟩
      have hbel3 := hbel.trans hb3
      have hstr : (⟨(List.map (fun z : Int => UInt8.ofNat z.toNat) (doneF G n)).toArray⟩ : ByteArray) = strOf (restF G 0 (n - 0)) := by rw [← done_all]; rfl
      rw [hstr]
      clear hstr hb3 hbel hsz HB hbig
      go_wp2
      go_loopw [1, 8, 23] (fun s1 s8 s23 wr => ∃ k : Nat, k ≤ n ∧ s8 = .string (strOf (restF G k (n - k))) ∧ s23 = .int .i64 (k : Int) ∧ DV w ad d S G k s1 wr) (fun _ _ s23 _ => n - (intOf s23).toNat)
      case atStart => exact ⟨0, by omega, rfl, rfl, hbel3, .inl ⟨rfl, rfl⟩⟩
      case round =>
        obtain ⟨k, hk, rfl, rfl, hbel, HD⟩ := hrel
        by_cases hlt : k < n
        · have hcell : wr.cell? ⟨b, off + k, none⟩ = some (.slice (G k).a (G k).n (G k).c) := by
            have h := hc k hlt
            rw [hbel.cell (World.block_lt_of_cell? _ _ h)]; exact h
          have hl1 := (hG k hlt).len
          have hF2 := hG2 k hlt
          have e1 : (strOf (restF G k (n - k))).extract 0 (G k).n = strOf (G k).zs := by rw [seq_cons G k n hlt, ← hl1]; exact strOf_left _ _
          have e2 : (strOf (restF G k (n - k))).extract (G k).n (strOf (restF G k (n - k))).size = strOf (restF G (k + 1) (n - (k + 1))) := by rw [seq_cons G k n hlt, ← hl1]; exact strOf_right _ _
          have e3 : (G k).n ≤ (strOf (restF G k (n - k))).size := by rw [seq_cons G k n hlt, strOf_size, List.length_append, hl1]; omega
          generalize strOf (restF G k (n - k)) = t at *
          generalize hs0 : strOf (G k).zs = s0 at *
          have e4 : ((G k).n : Int) ≤ (t.size : Int) := by omega
          clear hc hG hG2 hGa hl1 e3
          have hsz := hbel.size
          rcases HD with ⟨hk0, rfl⟩ | ⟨hk0, g, c, rfl, hown⟩
          · have HK : Hid (k = 0) := hk0
            clear hk0
            have holds : ∀ x, ad = some x → ∀ j u, (lst d S G 0)[j]? = some u → (wr.alloc (.cells #[.string s0] 9)).cell? (x.add j) = some u := by
              intro x hx j u hj
              obtain ⟨hjd, rfl⟩ := lst_zero d S G j u hj
              rcases hS.2.2 with h0 | ⟨b', off', ha, hc'⟩
              · omega
              · rw [ha] at hx
                obtain rfl := Option.some.inj hx
                have h := hc' j hjd
                have hlt1 := World.block_lt_of_cell? _ _ h
                rw [Go.WideShapes.add_plain, (hbel.alloc hbel.size _).cell (p := ⟨b', off' + j, none⟩) hlt1]
                exact h
            go_wp2_with (at_builtin; refine wpList_append_grows _ rfl (.tmp 27) (.tmp 32) 22 rfl 9 i0 (.string ⟨#[]⟩) 1 16 Try.underlying22 hi hz0 hz1 hz2 rfl (by decide) ad d d (lst d S G 0) rfl (fun h => ⟨hdn h, hdn h⟩) (by rw [lst_len]; omega) holds ⟨wr.heap.size, 0, none⟩ 1 1 [.string s0] rfl rfl (one_new _ _) (one_cell _) (by omega) (by unfold maxLen; omega) (by omega) ?_; intro v' w2 hown2 hg2)
            have hown3 := own_le hown2 (base' := w.heap.size) (by simp; omega)
            have hb4 : Below w.heap.size w w2 := (hbel.alloc hbel.size _).grown hg2 (by simp; omega) (fun k hk => by cases hk)
            obtain ⟨g, c, rfl⟩ := own_some hown3 (by omega)
            have hDV : DV w ad d S G (k + 1) (.slice (some ⟨g, 0, none⟩) (d + 1) c) w2 := by
              obtain rfl : k = 0 := HK
              refine ⟨hb4, .inr ⟨by omega, g, c, rfl, ?_⟩⟩
              rw [← lst_succ, hs0]
              exact hown3
            clear hown2 hown3 hg2 hb4 holds hS hdn HK hs0 hbel3 hbel
            go_roundw
            case rel => exact ⟨k + 1, by omega, rfl, by go_num, hDV⟩
            case measure => simp [intOf]; omega
          · go_wp2_with (at_builtin; refine wpList_append_own _ rfl (.tmp 27) (.tmp 32) 22 rfl w.heap.size 9 i0 (.string ⟨#[]⟩) 1 16 Try.underlying22 hi hz0 hz1 hz2 rfl (by decide) (.slice (some ⟨g, 0, none⟩) (d + k) c) (d + k) (lst d S G k) rfl (hown.alloc _) ⟨wr.heap.size, 0, none⟩ 1 1 [.string s0] rfl rfl (one_new _ _) (one_cell _) (by unfold maxLen; omega) (by omega) (by simp; omega) ?_; intro v' w2 hown2 hg2 hnl; clear hnl)
            have hb4 : Below w.heap.size w w2 := (hbel.alloc hbel.size _).grown hg2 (by simp; omega) (fun k hk => ((hown.alloc (.cells #[.string s0] 9)).lt k hk).1)
            obtain ⟨g', c', rfl⟩ := own_some hown2 (by omega)
            have hDV : DV w ad d S G (k + 1) (.slice (some ⟨g', 0, none⟩) (d + k + 1) c') w2 := by
              refine ⟨hb4, .inr ⟨by omega, g', c', rfl, ?_⟩⟩
              rw [← lst_succ, hs0]
              exact hown2
            clear hown2 hg2 hb4 hS hdn hs0 hbel3 hbel hown
            go_roundw
            case rel => exact ⟨k + 1, by omega, rfl, by go_num, hDV⟩
            case measure => simp [intOf]; omega
        · obtain rfl : n = k := by omega
          rcases HD with ⟨hk0, rfl⟩ | ⟨hk0, g, c, rfl, hown⟩
          · omega
          have hzl : ∀ j, j < n → (G j).zs.length ≤ 1048576 := fun j hj => by rw [(hG j hj).len]; exact hG2 j hj
          clear hc hG hG2 hGa
          go_wp2
          go_ret
          refine ⟨_, _, rfl, ⟨by omega, fun j => ?_, .inr ⟨g, 0, rfl, fun j hj => ?_⟩⟩, ?_, hbel⟩
          · unfold outS
            split
            · exact hS.2.1 j
            · split
              · rw [strOf_size]
                have := hzl (j - d) (by omega)
                omega
              · simp [ByteArray.size]
          · rw [Nat.zero_add, hown.cellAt j (by omega)]
            exact lst_at d n S G j hj
          · simp; omega

set_option maxHeartbeats 2000000 in
theorem tos_nil (ar : Option Addr) (cr : Nat) (ad : Option Addr) (d : Nat) (G : Nat → Fd) (S : Nat → ByteArray) (w : World) (hS : SRow w ad d S) :
    Calls Try.prog 25 #[.slice ar 0 cr, .slice ad d d] w fun e w' => Tos w ad d 0 S G e w' := by
  go_enter Try.func25, Try.ntmps25
  go_wp2
  refine wp_loop_rounds 1 ?_
  rw [rounds_succ]
  go_wp2_with fail
  refine (Try.Builder_String_any w.heap.size w.heap.size [] _ (Lib.fresh_isBuilder 50 5 w) (by simp)).mono ?_
  rintro e w3 ⟨rfl, hb3⟩
  have hbel : Below w.heap.size w w3 := ((Below.refl _ w).alloc (Nat.le_refl _) _).trans hb3
  clear hb3
  go_wp2
  refine wp_loop_rounds 1 ?_
  rw [rounds_succ]
  go_wp2
  go_ret
  have hS2 := hS.below hbel
  refine ⟨ad, d, rfl, ⟨hS.1, fun j => ?_, ?_⟩, by simp, hbel⟩
  · unfold outS
    split
    · exact hS.2.1 j
    · split
      · omega
      · simp [ByteArray.size]
  · rcases hS2.2.2 with h0 | ⟨b, off, e, hc⟩
    · exact .inl h0
    · exact .inr ⟨b, off, e, fun j hj => by have hj' : j < d := hj; rw [hc j hj']; simp [outS, hj']⟩

theorem tos (ar : Option Addr) (n cr : Nat) (ad : Option Addr) (d : Nat) (G : Nat → Fd) (S : Nat → ByteArray) (w : World) (hn : n ≤ 65536) (hd : d ≤ 65536)
    (hR : RRow w ar n G) (hG2 : ∀ j, j < n → (G j).n ≤ 1048576) (hGa : ∀ j, j < n → (G j).a = none ∨ ∃ fb, (G j).a = some ⟨fb, 0, none⟩ ∧ fb < w.heap.size)
    (hdn : ad = none → d = 0) (hS : SRow w ad d S) :
    Calls Try.prog 25 #[.slice ar n cr, .slice ad d d] w fun e w' => Tos w ad d n S G e w' := by
  rcases Nat.eq_zero_or_pos n with rfl | hn0
  · exact tos_nil ar cr ad d G S w hS
  · rcases hR.row with h0 | ⟨b, off, rfl, hc⟩
    · omega
    · exact tos_some b off n cr ad d G S w hn hn0 hd hR.fld hG2 hGa hc hdn hS

theorem zztos (ar : Option Addr) (n cr : Nat) (ad : Option Addr) (d : Nat) (G : Nat → Fd) (S : Nat → ByteArray) (w : World) (hn : n ≤ 65536) (hd : d ≤ 65536)
    (hR : RRow w ar n G) (hG2 : ∀ j, j < n → (G j).n ≤ 1048576) (hGa : ∀ j, j < n → (G j).a = none ∨ ∃ fb, (G j).a = some ⟨fb, 0, none⟩ ∧ fb < w.heap.size)
    (hdn : ad = none → d = 0) (hS : SRow w ad d S) :
    Calls Try.prog 20 #[.slice ar n cr, .slice ad d d] w fun e w' => Tos w ad d n S G e w' := by
  go_enter Try.func20, Try.ntmps20
  go_wp2_with fail
  refine (tos ar n cr ad d G S w hn hd hR hG2 hGa hdn hS).mono ?_
  rintro e w' ⟨a', c', rfl, h1, h2, h3⟩
  go_wp2
  go_ret
  exact ⟨a', c', rfl, h1, h2, h3⟩
end Go.Proofs.Qxb6603151a
