/-
  The walk over 'LawS1528CBigEndian' (function 4), out of what 'string' and 'exp' say.
-/
import Derived.Test.YbulkaepuFmtBig
namespace Go.Proofs.YbulkaepuFmt
open Go.RowKit

set_option maxHeartbeats 800000 in
set_option maxRecDepth 100000 in
theorem big_core (p : Option Addr) (n c : Nat) (xs : List Int) (s : ByteArray) (b sT lg : Bool) (SZ : Int) (W M : Nat) (ys : List Int) (w : World) (h0 : Arg w p n c xs) (hn : n ≤ 1024) (hs : s.size ≤ 1024) (hW : (W = 4 ∧ (SZ == 4) = true) ∨ (W = 8 ∧ (SZ == 4) = false))
    (hstr : ∀ E f w3, Enc w.heap.size E w3 (.iface 63 (.agg #[])) true SZ n xs →
      Calls Ybaf.prog 5 #[.pointer (some ⟨E, 0, none⟩), f, .agg #[.string s, .bool b, .bool sT]] w3 fun e w' => e = .returned (.tuple #[]) ∧ Enc w.heap.size E w' (.iface 63 (.agg #[])) true SZ M ys ∧ Below w.heap.size w3 w')
    (hexp : ∀ w4, Bytes w4 p n xs → Calls Ybaf.prog 7 #[.slice p n c, .string s, .bool b, .bool sT, .int .i64 (W : Int), .bool true] w4 fun e w' => ∃ ao cap, e = .returned (.tuple #[.slice ao M cap, .bool lg]) ∧ Bytes w' ao M ys ∧ Below w4.heap.size w4 w') :
    Calls Ybaf.prog 4 #[.slice p n c, .string s, .bool b, .bool sT, .int .i64 SZ] w fun e w' => e = .returned (.bool true) ∧ Below w.heap.size w w' := by
  obtain ⟨hsrc, hnil, hold⟩ := h0
  obtain ⟨i0, hi, hz0, hz1, hz2⟩ := info_parts Ybaf.info5
  have hd : decide (1024 < (n : Int)) = false := by simp; omega
  have hd2 : decide (1024 < (s.size : Int)) = false := by simp; omega
  have HSTR : Hid (∀ E f w3, Enc w.heap.size E w3 (.iface 63 (.agg #[])) true SZ n xs →
      Calls Ybaf.prog 5 #[.pointer (some ⟨E, 0, none⟩), f, .agg #[.string s, .bool b, .bool sT]] w3 fun e w' => e = .returned (.tuple #[]) ∧ Enc w.heap.size E w' (.iface 63 (.agg #[])) true SZ M ys ∧ Below w.heap.size w3 w') := hstr
  have HEXP : Hid (∀ w4, Bytes w4 p n xs → Calls Ybaf.prog 7 #[.slice p n c, .string s, .bool b, .bool sT, .int .i64 (W : Int), .bool true] w4 fun e w' => ∃ ao cap, e = .returned (.tuple #[.slice ao M cap, .bool lg]) ∧ Bytes w' ao M ys ∧ Below w4.heap.size w4 w') := hexp
  have HW : Hid ((W = 4 ∧ (SZ == 4) = true) ∨ (W = 8 ∧ (SZ == 4) = false)) := hW
  clear hstr hexp hW
  go_enter Ybaf.func4, Ybaf.ntmps4
  go_wp2
  go_region_law ((refine step_append_bytes (by rfl) _ _ 22 (by rfl) w.heap.size 5 i0 (.int .u8 0) 1 Ybaf.underlying22 hi hz0 hz1 hz2 rfl (.slice none 0 0) 0 [] (by rfl) (World.ownsRow_nil _ _ _ _) p n c xs (by rfl) hnil (by exact hsrc) (by unfold maxLen; omega) (by omega) (by simp) ?_; intro ao1 cap1 w1 hown1 hgrow1))
  all_goals
    have hB1 : Below w.heap.size w w1 := ((Below.refl w.heap.size w).drew).grown hgrow1 (by simp) (fun k hk => by simp [Value.ownBlock] at hk)
    have hsz := hB1.size
    have HE : Hid (Enc w.heap.size w1.heap.size (w1.alloc (.cells #[.slice ao1 n cap1, .iface 63 (.agg #[]), .bool true, .int .i64 0, .int .i64 SZ, .int .i64 0, .int .i64 0, .int .i64 0, .nilIface] 35)) (.iface 63 (.agg #[])) true SZ n xs) := enc_start _ _ _ (by simpa using hown1) hsz
    clear hown1 hgrow1
    go_wp2_with fail
    refine (HSTR.out w1.heap.size _ _ (HE.out.alloc _)).mono ?_
    rintro e w4 ⟨rfl, hE4, hb4⟩
    have hB4 : Below w.heap.size w w4 := ((hB1.alloc hsz _).alloc (by simp; omega) _).trans hb4
    have HS4 : Hid (Bytes w4 p n xs) := hsrc.belowB hB4 hold
    have HE4 : Hid (Enc w.heap.size w1.heap.size w4 (.iface 63 (.agg #[])) true SZ M ys) := hE4
    clear HE hE4 hb4 hB1 hsrc hnil hold HSTR
    go_wp2_with fail
    refine (width_says SZ W _ HW.out).mono ?_
    rintro e w5 ⟨rfl, rfl⟩
    go_wp2_with fail
    refine (HEXP.out _ HS4.out).mono ?_
    rintro e w6 ⟨ao6, cap6, rfl, hs6, hb6⟩
    have hB6 : Below w.heap.size w w6 := hB4.trans (hb6.mono hB4.size)
    obtain ⟨aoe, cape, hh, howne, _⟩ := HE4.out
    have hse := (own_bytes howne).below hb6
    have hh6 : w6.heap[w1.heap.size]? = _ := (hb6.block _ (Array.getElem?_eq_some_iff.1 hh).1).trans hh
    obtain ⟨c0, _, _, c8, _, hl⟩ := enc_cells hh6
    clear hh howne hh6 hb6 hB4 HS4 HE4 HEXP HW
    go_wp2_with fail
    refine (equal_true aoe ao6 M cape cap6 ys _ hse hs6).mono ?_
    rintro e w7 ⟨rfl, rfl⟩
    clear hse hs6
    go_wp2
    go_ret
    exact ⟨rfl, hB6⟩

/-- .. of texts that are too long for the law to look at. -/
theorem big_far (p : Option Addr) (n c : Nat) (s : ByteArray) (b sT : Bool) (SZ : Int) (w : World) (hn : 1024 < n) :
    Calls Ybaf.prog 4 #[.slice p n c, .string s, .bool b, .bool sT, .int .i64 SZ] w fun e w' => e = .returned (.bool true) ∧ Below w.heap.size w w' := by
  have hd : decide (1024 < (n : Int)) = true := by simp; omega
  go_enter Ybaf.func4, Ybaf.ntmps4
  go_wp2
  go_ret
  exact ⟨rfl, Below.refl _ _⟩

theorem big_far2 (p : Option Addr) (n c : Nat) (s : ByteArray) (b sT : Bool) (SZ : Int) (w : World) (hn : n ≤ 1024) (hs : 1024 < s.size) :
    Calls Ybaf.prog 4 #[.slice p n c, .string s, .bool b, .bool sT, .int .i64 SZ] w fun e w' => e = .returned (.bool true) ∧ Below w.heap.size w w' := by
  have hd : decide (1024 < (n : Int)) = false := by simp; omega
  have hd2 : decide (1024 < (s.size : Int)) = true := by simp; omega
  go_enter Ybaf.func4, Ybaf.ntmps4
  go_wp2
  go_ret
  exact ⟨rfl, Below.refl _ _⟩

/-- Nothing is known of this order's log. -/
def Any (_ : World) : Prop := True
theorem stays_any (E : Nat) : Stays E Any := fun _ _ _ _ _ => trivial

theorem uint_says_be (B E : Nat) (bl : Bool) (SZ : Int) (N W : Nat) (hN : N ≤ 2000) (hW : (W = 4 ∧ (SZ == 4) = true) ∨ (W = 8 ∧ (SZ == 4) = false)) : UintSays B E (.iface 63 (.agg #[])) bl SZ Any Any N (be N W) := by
  intro n xs w hn hE _
  rcases hW with ⟨rfl, h⟩ | ⟨rfl, h⟩
  · obtain rfl : SZ = 4 := by simpa using h
    exact (uint_be4 B E bl 4 n xs N w hn hN hE).mono fun e w' ⟨h1, h2, h4, h5⟩ => ⟨h1, h2, trivial, h4, h5⟩
  · exact (uint_be8 B E bl SZ n xs N SZ w h hn hN hE).mono fun e w' ⟨h1, h2, h4, h5⟩ => ⟨h1, h2, trivial, h4, h5⟩

/-- THE LAW, over every input that it looks at. -/
theorem big_law (p : Option Addr) (n c : Nat) (xs : List Int) (s : ByteArray) (b sT : Bool) (SZ : Int) (w : World) (h0 : Arg w p n c xs) (hn : n ≤ 1024) (hs : s.size ≤ 1024) :
    Calls Ybaf.prog 4 #[.slice p n c, .string s, .bool b, .bool sT, .int .i64 SZ] w fun e w' => e = .returned (.bool true) ∧ Below w.heap.size w w' := by
  obtain ⟨W, hW⟩ : ∃ W : Nat, (W = 4 ∧ (SZ == 4) = true) ∨ (W = 8 ∧ (SZ == 4) = false) := by
    cases h : (SZ == 4)
    · exact ⟨8, Or.inr ⟨rfl, rfl⟩⟩
    · exact ⟨4, Or.inl ⟨rfl, rfl⟩⟩
  have hW8 : W ≤ 8 := by omega
  have hx : xs.length = n := h0.1.1
  have hnil := h0.2.1
  cases b with
  | false =>
    cases sT with
    | false =>
      refine big_core p n c xs s false false false SZ W (List.length (xs ++ [(0 : Int)])) (xs ++ [0]) w h0 hn hs hW (fun E f w3 hE => ?_) (fun w4 hb => (exp_short_absent p n c xs s W true w4 hn hb hnil).out)
      refine (string_absent w.heap.size E _ true SZ Any Any f false [((0 : Nat) : Int)] s n xs w3 (by omega) (size_says_short w.heap.size E _ true SZ Any f 0 (by omega) (stays_any E)) (stays_any E) hE trivial).mono fun e w' ⟨h1, h2, _, h4⟩ => ⟨h1, ?_, h4⟩
      rw [length_of hx] at h2; exact h2
    | true =>
      have ey : xs ++ 255 :: be 0 W = xs ++ [255] ++ part true 0 W W := by rw [part_all_be]; simp
      refine big_core p n c xs s false true true SZ W (xs ++ [255] ++ part true 0 W W).length (xs ++ [255] ++ part true 0 W W) w h0 hn hs hW (fun E f w3 hE => ?_) (fun w4 hb => (exp_long_absent_be p n c xs s W w4 hn hW8 hb hnil).out)
      refine (string_absent w.heap.size E _ true SZ Any Any f true (255 :: be 0 W) s n xs w3 (by omega) (size_says_long w.heap.size E _ true SZ Any Any f 0 true (be 0 W) (by omega) (by simp) (uint_says_be _ E true SZ 0 W (by omega) hW) (stays_any E)) (stays_any E) hE trivial).mono fun e w' ⟨h1, h2, _, h4⟩ => ⟨h1, ?_, h4⟩
      rw [length_of hx, ey] at h2; exact h2
  | true =>
    cases hlong : (decide ((s.size : Int) + 1 < 255) && !sT) with
    | true =>
      simp at hlong
      obtain ⟨hl, rfl⟩ := hlong
      have ey : xs ++ [((s.size + 1 : Nat) : Int)] ++ strBytes s = xs ++ [(s.size : Int) + 1] ++ strBytes s := by rw [show ((s.size + 1 : Nat) : Int) = (s.size : Int) + 1 from by omega]
      refine big_core p n c xs s true false false SZ W (xs ++ [(s.size : Int) + 1] ++ strBytes s).length (xs ++ [(s.size : Int) + 1] ++ strBytes s) w h0 hn hs hW (fun E f w3 hE => ?_) (fun w4 hb => (exp_short_present p n c xs s W true w4 hn (by omega) hb hnil).out)
      refine (string_present w.heap.size E _ true SZ Any Any f false [((s.size + 1 : Nat) : Int)] s n xs w3 (by omega) (by simp) hs (size_says_short w.heap.size E _ true SZ Any f (s.size + 1) (by omega) (stays_any E)) (stays_any E) (stays_any E) hE trivial).mono fun e w' ⟨h1, h2, _, h4⟩ => ⟨h1, ?_, h4⟩
      rw [length_of3 s hx, ey] at h2; exact h2
    | false =>
      have ey : xs ++ 255 :: be (s.size + 1) W ++ strBytes s = xs ++ [255] ++ part true (s.size + 1) W W ++ strBytes s := by rw [part_all_be]; simp
      have hlong' : (decide (((s.size + 1 : Nat) : Int) < 255) && !sT) = false := by rw [show ((s.size + 1 : Nat) : Int) = (s.size : Int) + 1 from by omega]; exact hlong
      have hbl : (255 :: be (s.size + 1) W).length ≤ 100 := by simp [be]; omega
      refine big_core p n c xs s true sT true SZ W (xs ++ [255] ++ part true (s.size + 1) W W ++ strBytes s).length (xs ++ [255] ++ part true (s.size + 1) W W ++ strBytes s) w h0 hn hs hW (fun E f w3 hE => ?_) (fun w4 hb => (exp_long_present_be p n c xs s W sT w4 hn hs hW8 hlong hb hnil).out)
      refine (string_present w.heap.size E _ true SZ Any Any f sT (255 :: be (s.size + 1) W) s n xs w3 (by omega) hbl hs (size_says_long w.heap.size E _ true SZ Any Any f (s.size + 1) sT (be (s.size + 1) W) (by omega) hlong' (uint_says_be _ E true SZ (s.size + 1) W (by omega) hW) (stays_any E)) (stays_any E) (stays_any E) hE trivial).mono fun e w' ⟨h1, h2, _, h4⟩ => ⟨h1, ?_, h4⟩
      rw [length_of3 s hx, ey] at h2; exact h2

end Go.Proofs.YbulkaepuFmt
