/-
  'zzs1528cexp' (function 7): what the law expects.
-/
import Derived.Test.YbulkaepuFmtOrd
namespace Go.Proofs.YbulkaepuFmt
open Go.RowKit

theorem own_bytes {w : World} {B n cap : Nat} {ao : Option Addr} {xs : List Int} (h : w.ownsRow B 5 1 (.slice ao n cap) n (xs.map (Value.int .u8))) : Bytes w ao n xs := by
  have hl := h.1
  simp at hl
  refine ⟨hl, fun hn => ?_⟩
  rcases h.2 with ⟨_, h0⟩ | ⟨g, cap', cur, e, _⟩
  · omega
  · simp at e
    obtain ⟨rfl, rfl⟩ := e
    refine ⟨g, 0, rfl, fun i hi => ?_⟩
    rw [Nat.zero_add, h.cellAt i (by omega)]
    simp [show i < xs.length by omega]

/-- N in k bytes, the greatest first. -/
def be (N k : Nat) : List Int := (List.range k).map fun i => byteAt N (k - 1 - i)

/-- What the law expects behind the length: the value's bytes, where there is a value. -/
def tailOf (s : ByteArray) (present : Bool) : List Int := if present then strBytes s else []
/-- The number that is written: the length plus 1, or 0 for no string. -/
def numOf (s : ByteArray) (present : Bool) : Nat := if present then s.size + 1 else 0

/-- WHAT 'exp' HANDS BACK: a row of new memory that holds the bytes ys, and the bool. -/
def ExpSays (w : World) (args : Array Value) (ys : List Int) (long : Bool) : Prop :=
  Calls Ybaf.prog 7 args w fun e w' => ∃ ao cap, e = .returned (.tuple #[.slice ao ys.length cap, .bool long]) ∧ Bytes w' ao ys.length ys ∧ Below w.heap.size w w'

/-- WHAT HOLDS OF THE ROW THAT 'exp' MAKES, so far. -/
structure Own (w wr : World) (v : Value) (n : Nat) (xs : List Int) : Prop where
  own : wr.ownsRow w.heap.size 5 1 v n (xs.map (Value.int .u8))
  bel : Below w.heap.size w wr

theorem own_start {w w1 : World} {v : Value} {n : Nat} {xs : List Int} (h : w1.ownsRow w.heap.size 5 1 v n (xs.map (Value.int .u8))) (hg : w.grownBy w1 (Value.slice none 0 0).ownBlock) : Own w w1 v n xs :=
  ⟨h, (Below.refl _ _).grown hg (Nat.le_refl _) (fun k hk => by simp [Value.ownBlock] at hk)⟩

theorem Own.append {w wr w1 : World} {v v' : Value} {n : Nat} {xs : List Int} {q : Int} {o : Obj} (h : Own w wr v n xs) (hg : (wr.alloc o).grownBy w1 v.ownBlock) (hown : w1.ownsRow w.heap.size 5 1 v' (n + 1) (xs.map (Value.int .u8) ++ [Value.int .u8 q])) : Own w w1 v' (n + 1) (xs ++ [q]) :=
  ⟨by rw [List.map_append]; exact hown, (h.bel.alloc h.bel.size o).grown hg (by have := h.bel.size; simp; omega) (fun k hk => (h.own.lt k hk).1)⟩

theorem Own.text {w wr w1 : World} {v v' : Value} {n : Nat} {xs : List Int} {s : ByteArray} (h : Own w wr v n xs) (hg : wr.grownBy w1 v.ownBlock) (hown : w1.ownsRow w.heap.size 5 1 v' (n + s.size) (xs.map (Value.int .u8) ++ (strBytes s).map (Value.int .u8))) : Own w w1 v' (n + s.size) (xs ++ strBytes s) :=
  ⟨by rw [List.map_append]; exact hown, h.bel.grown hg h.bel.size (fun k hk => (h.own.lt k hk).1)⟩

theorem Own.done {w wr : World} {ao : Option Addr} {n cap : Nat} {xs : List Int} {long : Bool} (h : Own w wr (.slice ao n cap) n xs) :
    ∃ ao' cap', Ending.returned (.tuple #[.slice ao n cap, .bool long]) = .returned (.tuple #[.slice ao' xs.length cap', .bool long]) ∧ Bytes wr ao' xs.length xs ∧ Below w.heap.size w wr := by
  have hl := h.own.1
  simp at hl
  exact ⟨ao, cap, by rw [hl], by rw [hl]; exact own_bytes h.own, h.bel⟩

set_option maxHeartbeats 400000 in
set_option maxRecDepth 100000 in
theorem exp_short_absent (p : Option Addr) (n c : Nat) (xs : List Int) (s : ByteArray) (W : Int) (big : Bool) (w : World) (hn : n ≤ 1024) (hsrc : Bytes w p n xs) (hnil : p = none → n = 0 ∧ c = 0) :
    ExpSays w #[.slice p n c, .string s, .bool false, .bool false, .int .i64 W, .bool big] (xs ++ [0]) false := by
  unfold ExpSays
  obtain ⟨i0, hi, hz0, hz1, hz2⟩ := info_parts Ybaf.info5
  go_enter Ybaf.func7, Ybaf.ntmps7
  go_wp2_with (at_builtin; refine wpList_append_bytes rfl (.const (.slice none 0 0)) (.tmp 19) 22 rfl w.heap.size 5 i0 (.int .u8 0) 1 Ybaf.underlying22 hi hz0 hz1 hz2 rfl (.slice none 0 0) 0 [] rfl (World.ownsRow_nil _ _ _ _) p n c xs rfl hnil hsrc (by unfold maxLen; omega) (by omega) (Nat.le_refl _) ?_)
  intro v1 w1 hown1 hgrow1
  have h1 : Own w w1 v1 n xs := own_start hown1 hgrow1
  have o1 := h1.own
  have z1 := h1.bel.size
  clear hown1 hgrow1 hsrc hnil
  go_wp2_with (at_builtin; refine wpList_append_bytes rfl (.tmp 32) (.tmp 35) 22 rfl w.heap.size 5 i0 (.int .u8 0) 1 Ybaf.underlying22 hi hz0 hz1 hz2 rfl _ _ _ rfl (o1.alloc _) (some ⟨w1.heap.size, 0, none⟩) 1 1 [0] rfl (fun h => by cases h) (bytes_one w1 _) (by unfold maxLen; omega) (by omega) ?c1 ?_)
  case c1 => simp; omega
  intro v2 w2 hown2 hgrow2
  have h2 : Own w w2 v2 (n + 1) (xs ++ [0]) := h1.append hgrow2 hown2
  have o2 := h2.own
  have z2 := h2.bel.size
  clear hown2 hgrow2 h1 o1
  obtain ⟨ao, cap, hv⟩ := own_form o2
  rw [hv] at h2 ⊢
  clear hv o2
  go_wp2
  go_ret2
  exact h2.done

set_option maxHeartbeats 400000 in
set_option maxRecDepth 100000 in
theorem exp_short_present (p : Option Addr) (n c : Nat) (xs : List Int) (s : ByteArray) (W : Int) (big : Bool) (w : World) (hn : n ≤ 1024) (hs : s.size + 1 < 255) (hsrc : Bytes w p n xs) (hnil : p = none → n = 0 ∧ c = 0) :
    ExpSays w #[.slice p n c, .string s, .bool true, .bool false, .int .i64 W, .bool big] (xs ++ [(s.size : Int) + 1] ++ strBytes s) false := by
  unfold ExpSays
  obtain ⟨i0, hi, hz0, hz1, hz2⟩ := info_parts Ybaf.info5
  go_enter Ybaf.func7, Ybaf.ntmps7
  go_wp2_with (at_builtin; refine wpList_append_bytes rfl (.const (.slice none 0 0)) (.tmp 19) 22 rfl w.heap.size 5 i0 (.int .u8 0) 1 Ybaf.underlying22 hi hz0 hz1 hz2 rfl (.slice none 0 0) 0 [] rfl (World.ownsRow_nil _ _ _ _) p n c xs rfl hnil hsrc (by unfold maxLen; omega) (by omega) (Nat.le_refl _) ?_)
  intro v1 w1 hown1 hgrow1
  have h1 : Own w w1 v1 n xs := own_start hown1 hgrow1
  have o1 := h1.own
  have z1 := h1.bel.size
  clear hown1 hgrow1 hsrc hnil
  go_wp2_with (at_builtin; refine wpList_append_bytes rfl (.tmp 32) (.tmp 35) 22 rfl w.heap.size 5 i0 (.int .u8 0) 1 Ybaf.underlying22 hi hz0 hz1 hz2 rfl _ _ _ rfl (o1.alloc _) (some ⟨w1.heap.size, 0, none⟩) 1 1 [(s.size : Int) + 1] rfl (fun h => by cases h) (bytes_one w1 _) (by unfold maxLen; omega) (by omega) ?c1 ?_)
  case c1 => simp; omega
  intro v2 w2 hown2 hgrow2
  have h2 : Own w w2 v2 (n + 1) (xs ++ [(s.size : Int) + 1]) := h1.append hgrow2 hown2
  have o2 := h2.own
  have z2 := h2.bel.size
  clear hown2 hgrow2 h1 o1
  go_wp2_with (at_builtin; refine wpList_append_text rfl (.tmp 61) (.tmp 62) 22 9 rfl w.heap.size 5 i0 Ybaf.underlying22 Ybaf.underlying9 hi hz0 hz1 hz2 _ _ _ rfl o2 s rfl (by omega) (by omega) ?_)
  intro v3 w3 hown3 hgrow3
  have h3 : Own w w3 v3 (n + 1 + s.size) (xs ++ [(s.size : Int) + 1] ++ strBytes s) := h2.text hgrow3 (by simpa using hown3)
  have o3 := h3.own
  clear hown3 hgrow3 h2 o2
  obtain ⟨ao, cap, hv⟩ := own_form o3
  rw [hv] at h3 ⊢
  clear hv o3
  go_wp2
  go_ret2
  exact h3.done

end Go.Proofs.YbulkaepuFmt
