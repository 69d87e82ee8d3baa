/-
  The walk over 'LawS1526BTooLong' (function 4).
-/
import Derived.Test.YbulkaeosFmtLong
import Derived.Deep.OwnRows
namespace Go.Proofs.YbulkaeosFmt
open Go.RowKit Go.Extern.Stop Go.Stop Go.Extern

theorem own_bytes {w : World} {B n cap : Nat} {ao : Option Addr} {xs : List Int} (h : w.ownsRow B 5 1 (.slice ao n cap) n (xs.map (Value.int .u8))) : Bytes w ao n xs := by
  have hl := h.1
  simp at hl
  refine ⟨hl, fun hn => ?_⟩
  rcases h.2 with ⟨_, h0⟩ | ⟨g, cap', cur, e, _⟩
  · omega
  · simp at e
    obtain ⟨rfl, rfl⟩ := e
    refine ⟨g, 0, rfl, fun i hi => ?_⟩
    rw [Nat.zero_add, h.cellAt i (by omega)]
    simp [show i < xs.length by omega]

/-- WHAT THE LAWS ARE TOLD OF AN ARGUMENT '[]byte'. -/
def Arg (w : World) (p : Option Addr) (n c : Nat) (xs : List Int) : Prop := Bytes w p n xs ∧ (p = none → n = 0 ∧ c = 0) ∧ (0 < n → ∀ a, p = some a → a.block < w.heap.size)

theorem enc_start {w1 : World} {B n cap : Nat} {ao : Option Addr} {xs : List Int} (h : w1.ownsRow B 5 1 (.slice ao n cap) n (xs.map (Value.int .u8))) (hB : B ≤ w1.heap.size) (err : Value) :
    Enc B w1.heap.size (w1.alloc (.cells #[.slice ao n cap, err] 28)) err n xs := ⟨ao, cap, heap_alloc_new w1 _, h.alloc _, hB⟩

set_option maxHeartbeats 400000 in
theorem tooLong_one (F : Interp) (p : Option Addr) (n c : Nat) (xs : List Int) (x : Nat) (w : World) (hF : F.answers w.tape) (h0 : Arg w p n c xs) (hn : n ≤ 4096) (hx : x ≤ 65535) :
    Calls Ybaf.prog 4 #[.slice p n c, .int .u16 x, .bool false] w fun e w' => e = .returned (.bool true) ∧ Below w.heap.size w w' := by
  obtain ⟨hsrc, hnil, hold⟩ := h0
  obtain ⟨i0, hi, hz0, hz1, hz2⟩ := info_parts Ybaf.info5
  have hmk := run_make_row' (P := Ybaf.prog) 22 5 (.int .u8 0) 1 Ybaf.underlying22 Ybaf.info5 rfl .i64 .i64 (256 + x % 512) (by omega) (by omega)
  rw [show ((256 + x % 512 : Nat) : Int) = 256 + (x : Int) % 512 from by omega] at hmk
  have hd : decide (4096 < (n : Int)) = false := by simp; omega
  go_enter Ybaf.func4, Ybaf.ntmps4
  go_wp2_with (at_builtin; refine wpList_append_bytes rfl _ _ 22 rfl w.heap.size 5 i0 (.int .u8 0) 1 Ybaf.underlying22 hi hz0 hz1 hz2 rfl (.slice none 0 0) 0 [] rfl (World.ownsRow_nil _ _ _ _) p n c xs rfl hnil ?hsrc (by unfold maxLen; omega) (by omega) ?hb ?_)
  case hsrc => exact hsrc.below ((Below.refl _ _).alloc (Nat.le_refl _) _)
  case hb => simp
  intro v' w1 hown' hgrow
  obtain ⟨ao', cap', hv⟩ := own_form hown'
  rw [hv] at hown' ⊢
  clear hv hmk
  have hB1 : Below w.heap.size w w1 := ((Below.refl _ _).alloc (Nat.le_refl _) _).grown hgrow (by simp) (fun k hk => by simp [Value.ownBlock] at hk)
  have hsz := hB1.size
  have HE : Hid (Enc w.heap.size w1.heap.size (w1.alloc (.cells #[.slice ao' n cap', .nilIface] 28)) .nilIface n xs) := enc_start hown' hsz _
  have hB2 : Below w.heap.size w (w1.alloc (.cells #[.slice ao' n cap', .nilIface] 28)) := hB1.alloc hsz _
  clear hown' hgrow
  go_wp2_with fail
  refine (prefixed_long_one F w.heap.size w1.heap.size n xs _ _ _ _ _ (by show F.answers w1.tape; rw [hB1.tape]; exact hF) HE.out (by omega) (by omega)).mono ?_
  rintro e w2 ⟨rfl, ⟨t, y, hE2⟩, hb2⟩
  have hB3 : Below w.heap.size w w2 := hB2.trans hb2
  obtain ⟨ao2, cap2, hh, hown2, hBE⟩ := hE2
  obtain ⟨c0, c1, f0, f1, hl⟩ := two_cells hh
  have hs1 := own_bytes hown2
  have hs2 := hsrc.belowB hB3 hold
  clear hh hown2 hB1 hB2 hb2 HE hsrc hold hnil
  go_wp2_with (go_at_call 7; refine (equal_true ao2 p n cap2 c xs _ hs1 hs2).mono ?_; rintro e w3 ⟨rfl, rfl⟩)
  go_ret
  exact ⟨rfl, hB3⟩

set_option maxHeartbeats 400000 in
theorem tooLong_two (F : Interp) (p : Option Addr) (n c : Nat) (xs : List Int) (x : Nat) (w : World) (hF : F.answers w.tape) (h0 : Arg w p n c xs) (hn : n ≤ 4096) (hx : x ≤ 65535) :
    Calls Ybaf.prog 4 #[.slice p n c, .int .u16 x, .bool true] w fun e w' => e = .returned (.bool true) ∧ Below w.heap.size w w' := by
  obtain ⟨hsrc, hnil, hold⟩ := h0
  obtain ⟨i0, hi, hz0, hz1, hz2⟩ := info_parts Ybaf.info5
  have hmk := run_make_row' (P := Ybaf.prog) 22 5 (.int .u8 0) 1 Ybaf.underlying22 Ybaf.info5 rfl .i64 .i64 (65536 + x % 16) (by omega) (by omega)
  rw [show ((65536 + x % 16 : Nat) : Int) = 65536 + (x : Int) % 16 from by omega] at hmk
  have hd : decide (4096 < (n : Int)) = false := by simp; omega
  go_enter Ybaf.func4, Ybaf.ntmps4
  go_wp2_with (at_builtin; refine wpList_append_bytes rfl _ _ 22 rfl w.heap.size 5 i0 (.int .u8 0) 1 Ybaf.underlying22 hi hz0 hz1 hz2 rfl (.slice none 0 0) 0 [] rfl (World.ownsRow_nil _ _ _ _) p n c xs rfl hnil ?hsrc (by unfold maxLen; omega) (by omega) ?hb ?_)
  case hsrc => exact hsrc.below ((Below.refl _ _).alloc (Nat.le_refl _) _)
  case hb => simp
  intro v' w1 hown' hgrow
  obtain ⟨ao', cap', hv⟩ := own_form hown'
  rw [hv] at hown' ⊢
  clear hv hmk
  have hB1 : Below w.heap.size w w1 := ((Below.refl _ _).alloc (Nat.le_refl _) _).grown hgrow (by simp) (fun k hk => by simp [Value.ownBlock] at hk)
  have hsz := hB1.size
  have HE : Hid (Enc w.heap.size w1.heap.size (w1.alloc (.cells #[.slice ao' n cap', .nilIface] 28)) .nilIface n xs) := enc_start hown' hsz _
  have hB2 : Below w.heap.size w (w1.alloc (.cells #[.slice ao' n cap', .nilIface] 28)) := hB1.alloc hsz _
  clear hown' hgrow
  go_wp2_with fail
  refine (prefixed_long_two F w.heap.size w1.heap.size n xs _ _ _ _ _ (by show F.answers w1.tape; rw [hB1.tape]; exact hF) HE.out (by omega) (by omega)).mono ?_
  rintro e w2 ⟨rfl, ⟨t, y, hE2⟩, hb2⟩
  have hB3 : Below w.heap.size w w2 := hB2.trans hb2
  obtain ⟨ao2, cap2, hh, hown2, hBE⟩ := hE2
  obtain ⟨c0, c1, f0, f1, hl⟩ := two_cells hh
  have hs1 := own_bytes hown2
  have hs2 := hsrc.belowB hB3 hold
  clear hh hown2 hB1 hB2 hb2 HE hsrc hold hnil
  go_wp2_with (go_at_call 7; refine (equal_true ao2 p n cap2 c xs _ hs1 hs2).mono ?_; rintro e w3 ⟨rfl, rfl⟩)
  go_ret
  exact ⟨rfl, hB3⟩

/-- .. of a prior text that is too long for the law to look at. -/
theorem tooLong_far (p : Option Addr) (n c : Nat) (x : Int) (b : Bool) (w : World) (hn : 4096 < n) :
    Calls Ybaf.prog 4 #[.slice p n c, .int .u16 x, .bool b] w fun e w' => e = .returned (.bool true) ∧ Below w.heap.size w w' := by
  go_enter Ybaf.func4, Ybaf.ntmps4
  go_wp2
  go_ret
  exact ⟨rfl, Below.refl _ _⟩

end Go.Proofs.YbulkaeosFmt
