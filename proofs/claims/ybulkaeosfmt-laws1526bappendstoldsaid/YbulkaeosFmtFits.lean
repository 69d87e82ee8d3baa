/-
  The walk over 'LawS1526BAppends' (function 3), where the value is within its field's reach.
-/
import Derived.Test.YbulkaeosFmtAppends
namespace Go.Proofs.YbulkaeosFmt
open Go.RowKit Go.Extern.Stop Go.Stop Go.Extern

/-- A part of a row of the call's own. -/
theorem own_part {w : World} {B g n cap : Nat} {xs : List Int} (h : w.ownsRow B 5 1 (.slice (some ⟨g, 0, none⟩) n cap) n (xs.map (Value.int .u8))) (k m : Nat) (hk : k + m ≤ n) : Bytes w (some ⟨g, k, none⟩) m ((xs.drop k).take m) := by
  have hl := h.1
  simp at hl
  refine ⟨by simp; omega, fun hn => ⟨g, k, rfl, fun i hi => ?_⟩⟩
  rw [h.cellAt (k + i) (by omega)]
  simp [show k + i < xs.length by omega, hi]

set_option maxHeartbeats 400000 in
theorem appends_fits_one (p : Option Addr) (n c : Nat) (xs : List Int) (q : Option Addr) (m d : Nat) (ns : List Int) (w : World) (h0 : Arg w p n c xs) (h1 : Arg w q m d ns) (hn : n ≤ 4096) (hm : m ≤ 255) :
    Calls Ybaf.prog 3 #[.slice p n c, .slice q m d, .bool false, .bool false] w fun e w' => e = .returned (.bool true) ∧ Below w.heap.size w w' := by
  obtain ⟨hsrc, hnil, hold⟩ := h0
  obtain ⟨hsrc2, hnil2, hold2⟩ := h1
  obtain ⟨i0, hi, hz0, hz1, hz2⟩ := info_parts Ybaf.info5
  have hd : decide (4096 < (n : Int)) = false := by simp; omega
  have hd2 : decide (70000 < (m : Int)) = false := by simp; omega
  have hd3 : decide (255 < (m : Int)) = false := by simp; omega
  go_enter Ybaf.func3, Ybaf.ntmps3
  go_wp2_with (at_builtin; refine wpList_append_bytes rfl _ _ 22 rfl w.heap.size 5 i0 (.int .u8 0) 1 Ybaf.underlying22 hi hz0 hz1 hz2 rfl (.slice none 0 0) 0 [] rfl (World.ownsRow_nil _ _ _ _) p n c xs rfl hnil hsrc (by unfold maxLen; omega) (by omega) (Nat.le_refl _) ?_)
  intro v' w1 hown' hgrow
  obtain ⟨ao', cap', hv⟩ := own_form hown'
  rw [hv] at hown' ⊢
  clear hv
  have hB1 : Below w.heap.size w w1 := (Below.refl _ _).grown hgrow (Nat.le_refl _) (fun k hk => by simp [Value.ownBlock] at hk)
  have hsz := hB1.size
  have HE : Hid (Enc w.heap.size w1.heap.size (w1.alloc (.cells #[.slice ao' n cap', .nilIface] 28)) .nilIface n xs) := enc_start hown' hsz _
  have hB2 : Below w.heap.size w (w1.alloc (.cells #[.slice ao' n cap', .nilIface] 28)) := hB1.alloc hsz _
  have HS2 : Hid (Bytes (w1.alloc (.cells #[.slice ao' n cap', .nilIface] 28)) q m ns) := hsrc2.belowB hB2 hold2
  clear hown' hgrow
  go_wp2_with fail
  refine (prefixed_one w.heap.size w1.heap.size n xs q m d ns _ _ HE.out hnil2 HS2.out hold2 (by omega) hm).mono ?_
  rintro e w2 ⟨rfl, hE2, hb2⟩
  have hB3 : Below w.heap.size w w2 := hB2.trans hb2
  obtain ⟨ao2, cap2, hh, hown2, hBE⟩ := hE2
  obtain ⟨c0, c1, f0, f1, hl⟩ := two_cells hh
  obtain ⟨g, hg⟩ : ∃ g, ao2 = some ⟨g, 0, none⟩ := by
    rcases hown2.2 with ⟨_, h⟩ | ⟨g, _, _, e, _⟩
    · omega
    · simp at e; exact ⟨g, e.1⟩
  subst hg
  have hcap : n + 1 + m ≤ cap2 := by
    rcases hown2.2 with ⟨_, h⟩ | ⟨_, _, _, e, _, _, h, _⟩
    · omega
    · simp at e; omega
  have hx := hsrc.1
  have hxn := hsrc2.1
  have hs1 : Bytes w2 (some ⟨g, 0, none⟩) n xs := by
    have := own_part hown2 0 n (by omega)
    rw [List.drop_zero, List.append_assoc, List.take_left' hx] at this
    exact this
  have hs2 := hsrc.belowB hB3 hold
  have hs3 : Bytes w2 (some ⟨g, n + 1, none⟩) m ns := by
    have := own_part hown2 (n + 1) m (by omega)
    rw [List.drop_left' (by simp; omega), List.take_of_length_le (by omega)] at this
    exact this
  have hs4 := hsrc2.belowB hB3 hold2
  have ck : w2.cell? ⟨g, n, none⟩ = some (.int .u8 m) := by
    rw [hown2.cellAt n (by omega)]
    simp [← hx]
  clear hh hown2 hB1 hB2 hb2 HE HS2 hsrc hsrc2 hold hold2 hnil hnil2 hx hxn
  have hmod : ((m : Int) != (m : Int) % 256) = false := by simp; omega
  go_wp2_with fail
  refine (equal_true _ p n _ c xs _ hs1 hs2).mono ?_
  rintro e w3 ⟨rfl, rfl⟩
  clear hs1 hs2
  go_wp2_with fail
  · have hm0 : m = 0 := by omega
    refine (equal_true _ q m _ d ns _ ⟨hs4.1, fun h => absurd h (by omega)⟩ hs4).mono ?_
    rintro e w4 ⟨rfl, rfl⟩
    clear hm0
    go_wp2
    go_ret
    exact ⟨rfl, hB3⟩
  · refine (equal_true _ q m _ d ns _ hs3 hs4).mono ?_
    rintro e w4 ⟨rfl, rfl⟩
    go_wp2
    go_ret
    exact ⟨rfl, hB3⟩

set_option maxHeartbeats 400000 in
theorem appends_fits_two (p : Option Addr) (n c : Nat) (xs : List Int) (q : Option Addr) (m d : Nat) (ns : List Int) (w : World) (h0 : Arg w p n c xs) (h1 : Arg w q m d ns) (hn : n ≤ 4096) (hm : m ≤ 65535) :
    Calls Ybaf.prog 3 #[.slice p n c, .slice q m d, .bool true, .bool false] w fun e w' => e = .returned (.bool true) ∧ Below w.heap.size w w' := by
  obtain ⟨hsrc, hnil, hold⟩ := h0
  obtain ⟨hsrc2, hnil2, hold2⟩ := h1
  obtain ⟨i0, hi, hz0, hz1, hz2⟩ := info_parts Ybaf.info5
  have hd : decide (4096 < (n : Int)) = false := by simp; omega
  have hd2 : decide (70000 < (m : Int)) = false := by simp; omega
  have hd3 : decide (65535 < (m : Int)) = false := by simp; omega
  go_enter Ybaf.func3, Ybaf.ntmps3
  go_wp2_with (at_builtin; refine wpList_append_bytes rfl _ _ 22 rfl w.heap.size 5 i0 (.int .u8 0) 1 Ybaf.underlying22 hi hz0 hz1 hz2 rfl (.slice none 0 0) 0 [] rfl (World.ownsRow_nil _ _ _ _) p n c xs rfl hnil hsrc (by unfold maxLen; omega) (by omega) (Nat.le_refl _) ?_)
  intro v' w1 hown' hgrow
  obtain ⟨ao', cap', hv⟩ := own_form hown'
  rw [hv] at hown' ⊢
  clear hv
  have hB1 : Below w.heap.size w w1 := (Below.refl _ _).grown hgrow (Nat.le_refl _) (fun k hk => by simp [Value.ownBlock] at hk)
  have hsz := hB1.size
  have HE : Hid (Enc w.heap.size w1.heap.size (w1.alloc (.cells #[.slice ao' n cap', .nilIface] 28)) .nilIface n xs) := enc_start hown' hsz _
  have hB2 : Below w.heap.size w (w1.alloc (.cells #[.slice ao' n cap', .nilIface] 28)) := hB1.alloc hsz _
  have HS2 : Hid (Bytes (w1.alloc (.cells #[.slice ao' n cap', .nilIface] 28)) q m ns) := hsrc2.belowB hB2 hold2
  clear hown' hgrow
  go_wp2_with fail
  refine (prefixed_two w.heap.size w1.heap.size n xs q m d ns _ _ HE.out hnil2 HS2.out hold2 (by omega) hm).mono ?_
  rintro e w2 ⟨rfl, hE2, hb2⟩
  have hB3 : Below w.heap.size w w2 := hB2.trans hb2
  obtain ⟨ao2, cap2, hh, hown2, hBE⟩ := hE2
  obtain ⟨c0, c1, f0, f1, hl⟩ := two_cells hh
  obtain ⟨g, hg⟩ : ∃ g, ao2 = some ⟨g, 0, none⟩ := by
    rcases hown2.2 with ⟨_, h⟩ | ⟨g, _, _, e, _⟩
    · omega
    · simp at e; exact ⟨g, e.1⟩
  subst hg
  have hcap : n + 2 + m ≤ cap2 := by
    rcases hown2.2 with ⟨_, h⟩ | ⟨_, _, _, e, _, _, h, _⟩
    · omega
    · simp at e; omega
  have hx := hsrc.1
  have hxn := hsrc2.1
  have hs1 : Bytes w2 (some ⟨g, 0, none⟩) n xs := by
    have := own_part hown2 0 n (by omega)
    rw [List.drop_zero, List.append_assoc, List.take_left' hx] at this
    exact this
  have hs2 := hsrc.belowB hB3 hold
  have hs3 : Bytes w2 (some ⟨g, n + 2, none⟩) m ns := by
    have := own_part hown2 (n + 2) m (by omega)
    rw [List.drop_left' (by simp; omega), List.take_of_length_le (by omega)] at this
    exact this
  have hs4 := hsrc2.belowB hB3 hold2
  have ck : w2.cell? ⟨g, n, none⟩ = some (.int .u8 ((m : Int) / 256)) := by
    rw [hown2.cellAt n (by omega)]
    simp [← hx]
  have ck2 : w2.cell? ⟨g, n + 1, none⟩ = some (.int .u8 ((m : Int) % 256)) := by
    rw [hown2.cellAt (n + 1) (by omega)]
    simp [← hx]
  clear hh hown2 hB1 hB2 hb2 HE HS2 hsrc hsrc2 hold hold2 hnil hnil2 hx hxn
  go_wp2_with fail
  refine (equal_true _ p n _ c xs _ hs1 hs2).mono ?_
  rintro e w3 ⟨rfl, rfl⟩
  clear hs1 hs2
  go_wp2_with fail
  · have hm0 : m = 0 := by omega
    refine (equal_true _ q m _ d ns _ ⟨hs4.1, fun h => absurd h (by omega)⟩ hs4).mono ?_
    rintro e w4 ⟨rfl, rfl⟩
    clear hm0
    go_wp2
    go_ret
    exact ⟨rfl, hB3⟩
  · refine (equal_true _ q m _ d ns _ hs3 hs4).mono ?_
    rintro e w4 ⟨rfl, rfl⟩
    go_wp2
    go_ret
    exact ⟨rfl, hB3⟩

end Go.Proofs.YbulkaeosFmt
