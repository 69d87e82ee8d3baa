/-
  'zzs1528cexp' (function 7) where the size_t form is expected.
-/
import Derived.Test.YbulkaepuFmtExp
namespace Go.Proofs.YbulkaepuFmt
open Go.RowKit

theorem byteAt_succ (m j : Nat) : byteAt (m + 1) j = ((m : Int) + 1) / 2 ^ (8 * j) % 256 := by
  unfold byteAt
  rw [show ((m + 1 : Nat) : Int) = (m : Int) + 1 from by omega]
theorem byteAt_zero (j : Nat) : byteAt 0 j = 0 := by simp [byteAt]

/-- The bytes of N that are written first: the first k of a row of W, in either order. -/
def part (big : Bool) (N W k : Nat) : List Int := (List.range k).map fun i => byteAt N (if big then W - 1 - i else i)
theorem part_succ (big : Bool) (N W k : Nat) : part big N W (k + 1) = part big N W k ++ [byteAt N (if big then W - 1 - k else k)] := by simp [part, List.range_succ]
theorem part_all_le (N W : Nat) : part false N W W = le N W := by simp [part, le]
theorem part_all_be (N W : Nat) : part true N W W = be N W := by simp [part, be]

set_option maxHeartbeats 400000 in
set_option maxRecDepth 100000 in
theorem exp_long_absent_le (p : Option Addr) (n c : Nat) (xs : List Int) (s : ByteArray) (W : Nat) (w : World) (hn : n ≤ 1024) (hW : W ≤ 8) (hsrc : Bytes w p n xs) (hnil : p = none → n = 0 ∧ c = 0) :
    ExpSays w #[.slice p n c, .string s, .bool false, .bool true, .int .i64 W, .bool false] (xs ++ [255] ++ part false 0 W W) true := by
  unfold ExpSays
  obtain ⟨i0, hi, hz0, hz1, hz2⟩ := info_parts Ybaf.info5
  all_goals
    go_enter Ybaf.func7, Ybaf.ntmps7
    go_wp2_with (at_builtin; refine wpList_append_bytes rfl (.const (.slice none 0 0)) (.tmp 19) 22 rfl w.heap.size 5 i0 (.int .u8 0) 1 Ybaf.underlying22 hi hz0 hz1 hz2 rfl (.slice none 0 0) 0 [] rfl (World.ownsRow_nil _ _ _ _) p n c xs rfl hnil hsrc (by unfold maxLen; omega) (by omega) (Nat.le_refl _) ?_)
    intro v1 w1 hown1 hgrow1
    have h1 : Own w w1 v1 n xs := own_start hown1 hgrow1
    have o1 := h1.own
    have z1 := h1.bel.size
    clear hown1 hgrow1 hsrc hnil
    go_wp2_with (at_builtin; refine wpList_append_bytes rfl (.tmp 37) (.tmp 38) 22 rfl w.heap.size 5 i0 (.int .u8 0) 1 Ybaf.underlying22 hi hz0 hz1 hz2 rfl _ _ _ rfl (o1.alloc _) (some ⟨w1.heap.size, 0, none⟩) 1 1 [255] rfl (fun h => by cases h) (bytes_one w1 _) (by unfold maxLen; omega) (by omega) (by simp; omega) ?_)
    intro v2 w2 hown2 hgrow2
    have h2 : Own w w2 v2 (n + 1) (xs ++ [255]) := h1.append hgrow2 hown2
    clear hown2 hgrow2 h1 o1
    go_wp2
    go_loopw [14, 17] (fun v i wr => ∃ k : Nat, k ≤ W ∧ i = .int .i64 k ∧ Own w wr v (n + 1 + k) (xs ++ [255] ++ part false 0 W k)) (fun _ i _ => W - (intOf i).toNat)
    case atStart => exact ⟨0, by omega, rfl, by simpa [part] using h2⟩
    case round =>
      clear h2 z1
      obtain ⟨k, hk, rfl, hO⟩ := hrel
      have oo := hO.own
      have zz := hO.bel.size
      by_cases hlt : k < W
      · go_wp2_with (at_builtin; refine wpList_append_bytes rfl (.tmp 51) (.tmp 58) 22 rfl w.heap.size 5 i0 (.int .u8 0) 1 Ybaf.underlying22 hi hz0 hz1 hz2 rfl _ _ _ rfl (oo.alloc _) (some ⟨wr.heap.size, 0, none⟩) 1 1 [0] rfl (fun h => by cases h) (bytes_one wr _) (by unfold maxLen; omega) (by omega) (by simp; omega) ?_)
        intro v3 w3 hown3 hgrow3
        have R : Own w w3 v3 (n + 1 + k + 1) (xs ++ [255] ++ part false 0 W k ++ [byteAt 0 (if false then W - 1 - k else k)]) := hO.append hgrow3 (by rw [byteAt_zero]; simpa using hown3)
        rw [List.append_assoc (xs ++ [255]), ← part_succ] at R
        clear hown3 hgrow3 hO oo
        go_wp2
        go_roundw
        case rel => exact ⟨k + 1, by omega, by go_num, R⟩
        case measure => simp [intOf]; omega
      · obtain rfl : k = W := by omega
        obtain ⟨ao, cap, hv⟩ := own_form oo
        rw [hv] at hO ⊢
        clear hv oo
        go_wp2
        go_ret2
        exact hO.done

set_option maxHeartbeats 400000 in
set_option maxRecDepth 100000 in
theorem exp_long_absent_be (p : Option Addr) (n c : Nat) (xs : List Int) (s : ByteArray) (W : Nat) (w : World) (hn : n ≤ 1024) (hW : W ≤ 8) (hsrc : Bytes w p n xs) (hnil : p = none → n = 0 ∧ c = 0) :
    ExpSays w #[.slice p n c, .string s, .bool false, .bool true, .int .i64 W, .bool true] (xs ++ [255] ++ part true 0 W W) true := by
  unfold ExpSays
  obtain ⟨i0, hi, hz0, hz1, hz2⟩ := info_parts Ybaf.info5
  all_goals
    go_enter Ybaf.func7, Ybaf.ntmps7
    go_wp2_with (at_builtin; refine wpList_append_bytes rfl (.const (.slice none 0 0)) (.tmp 19) 22 rfl w.heap.size 5 i0 (.int .u8 0) 1 Ybaf.underlying22 hi hz0 hz1 hz2 rfl (.slice none 0 0) 0 [] rfl (World.ownsRow_nil _ _ _ _) p n c xs rfl hnil hsrc (by unfold maxLen; omega) (by omega) (Nat.le_refl _) ?_)
    intro v1 w1 hown1 hgrow1
    have h1 : Own w w1 v1 n xs := own_start hown1 hgrow1
    have o1 := h1.own
    have z1 := h1.bel.size
    clear hown1 hgrow1 hsrc hnil
    go_wp2_with (at_builtin; refine wpList_append_bytes rfl (.tmp 37) (.tmp 38) 22 rfl w.heap.size 5 i0 (.int .u8 0) 1 Ybaf.underlying22 hi hz0 hz1 hz2 rfl _ _ _ rfl (o1.alloc _) (some ⟨w1.heap.size, 0, none⟩) 1 1 [255] rfl (fun h => by cases h) (bytes_one w1 _) (by unfold maxLen; omega) (by omega) (by simp; omega) ?_)
    intro v2 w2 hown2 hgrow2
    have h2 : Own w w2 v2 (n + 1) (xs ++ [255]) := h1.append hgrow2 hown2
    clear hown2 hgrow2 h1 o1
    go_wp2
    go_loopw [14, 17] (fun v i wr => ∃ k : Nat, k ≤ W ∧ i = .int .i64 k ∧ Own w wr v (n + 1 + k) (xs ++ [255] ++ part true 0 W k)) (fun _ i _ => W - (intOf i).toNat)
    case atStart => exact ⟨0, by omega, rfl, by simpa [part] using h2⟩
    case round =>
      clear h2 z1
      obtain ⟨k, hk, rfl, hO⟩ := hrel
      have oo := hO.own
      have zz := hO.bel.size
      by_cases hlt : k < W
      · go_wp2_with (at_builtin; refine wpList_append_bytes rfl (.tmp 51) (.tmp 58) 22 rfl w.heap.size 5 i0 (.int .u8 0) 1 Ybaf.underlying22 hi hz0 hz1 hz2 rfl _ _ _ rfl (oo.alloc _) (some ⟨wr.heap.size, 0, none⟩) 1 1 [0] rfl (fun h => by cases h) (bytes_one wr _) (by unfold maxLen; omega) (by omega) (by simp; omega) ?_)
        intro v3 w3 hown3 hgrow3
        have R : Own w w3 v3 (n + 1 + k + 1) (xs ++ [255] ++ part true 0 W k ++ [byteAt 0 (if true then W - 1 - k else k)]) := hO.append hgrow3 (by rw [byteAt_zero]; simpa using hown3)
        rw [List.append_assoc (xs ++ [255]), ← part_succ] at R
        clear hown3 hgrow3 hO oo
        go_wp2
        go_roundw
        case rel => exact ⟨k + 1, by omega, by go_num, R⟩
        case measure => simp [intOf]; omega
      · obtain rfl : k = W := by omega
        obtain ⟨ao, cap, hv⟩ := own_form oo
        rw [hv] at hO ⊢
        clear hv oo
        go_wp2
        go_ret2
        exact hO.done

set_option maxHeartbeats 400000 in
set_option maxRecDepth 100000 in
theorem exp_long_present_le (p : Option Addr) (n c : Nat) (xs : List Int) (s : ByteArray) (W : Nat) (sT : Bool) (w : World) (hn : n ≤ 1024) (hs : s.size ≤ 1024) (hW : W ≤ 8) (hlong : (decide ((s.size : Int) + 1 < 255) && !sT) = false) (hsrc : Bytes w p n xs) (hnil : p = none → n = 0 ∧ c = 0) :
    ExpSays w #[.slice p n c, .string s, .bool true, .bool sT, .int .i64 W, .bool false] (xs ++ [255] ++ part false (s.size + 1) W W ++ strBytes s) true := by
  unfold ExpSays
  obtain ⟨i0, hi, hz0, hz1, hz2⟩ := info_parts Ybaf.info5
  cases hd : decide ((s.size : Int) + 1 < 255) <;> cases sT <;> first | (rw [hd] at hlong; exact absurd hlong (by decide)) | skip
  all_goals
    clear hlong
    go_enter Ybaf.func7, Ybaf.ntmps7
    go_wp2_with (at_builtin; refine wpList_append_bytes rfl (.const (.slice none 0 0)) (.tmp 19) 22 rfl w.heap.size 5 i0 (.int .u8 0) 1 Ybaf.underlying22 hi hz0 hz1 hz2 rfl (.slice none 0 0) 0 [] rfl (World.ownsRow_nil _ _ _ _) p n c xs rfl hnil hsrc (by unfold maxLen; omega) (by omega) (Nat.le_refl _) ?_)
    intro v1 w1 hown1 hgrow1
    have h1 : Own w w1 v1 n xs := own_start hown1 hgrow1
    have o1 := h1.own
    have z1 := h1.bel.size
    clear hown1 hgrow1 hsrc hnil
    go_wp2_with (at_builtin; refine wpList_append_bytes rfl (.tmp 37) (.tmp 38) 22 rfl w.heap.size 5 i0 (.int .u8 0) 1 Ybaf.underlying22 hi hz0 hz1 hz2 rfl _ _ _ rfl (o1.alloc _) (some ⟨w1.heap.size, 0, none⟩) 1 1 [255] rfl (fun h => by cases h) (bytes_one w1 _) (by unfold maxLen; omega) (by omega) (by simp; omega) ?_)
    intro v2 w2 hown2 hgrow2
    have h2 : Own w w2 v2 (n + 1) (xs ++ [255]) := h1.append hgrow2 hown2
    clear hown2 hgrow2 h1 o1
    go_wp2
    go_loopw [14, 17] (fun v i wr => ∃ k : Nat, k ≤ W ∧ i = .int .i64 k ∧ Own w wr v (n + 1 + k) (xs ++ [255] ++ part false (s.size + 1) W k)) (fun _ i _ => W - (intOf i).toNat)
    case atStart => exact ⟨0, by omega, rfl, by simpa [part] using h2⟩
    case round =>
      clear h2 z1
      obtain ⟨k, hk, rfl, hO⟩ := hrel
      have oo := hO.own
      have zz := hO.bel.size
      by_cases hlt : k < W
      · go_wp2_with (at_builtin; refine wpList_append_bytes rfl (.tmp 51) (.tmp 58) 22 rfl w.heap.size 5 i0 (.int .u8 0) 1 Ybaf.underlying22 hi hz0 hz1 hz2 rfl _ _ _ rfl (oo.alloc _) (some ⟨wr.heap.size, 0, none⟩) 1 1 [((s.size : Int) + 1) / 2 ^ (8 * k) % 256] rfl (fun h => by cases h) (bytes_one wr _) (by unfold maxLen; omega) (by omega) (by simp; omega) ?_)
        intro v3 w3 hown3 hgrow3
        have R : Own w w3 v3 (n + 1 + k + 1) (xs ++ [255] ++ part false (s.size + 1) W k ++ [byteAt (s.size + 1) (if false then W - 1 - k else k)]) := hO.append hgrow3 (by rw [byteAt_succ]; simpa using hown3)
        rw [List.append_assoc (xs ++ [255]), ← part_succ] at R
        clear hown3 hgrow3 hO oo
        go_wp2
        go_roundw
        case rel => exact ⟨k + 1, by omega, by go_num, R⟩
        case measure => simp [intOf]; omega
      · obtain rfl : k = W := by omega
        go_wp2_with (at_builtin; refine wpList_append_text rfl (.tmp 61) (.tmp 62) 22 9 rfl w.heap.size 5 i0 Ybaf.underlying22 Ybaf.underlying9 hi hz0 hz1 hz2 _ _ _ rfl oo s rfl (by omega) (by omega) ?_)
        intro v4 w4 hown4 hgrow4
        have h4 : Own w w4 v4 (n + 1 + k + s.size) (xs ++ [255] ++ part false (s.size + 1) k k ++ strBytes s) := hO.text hgrow4 (by simpa using hown4)
        have o4 := h4.own
        clear hown4 hgrow4 hO oo
        obtain ⟨ao, cap, hv⟩ := own_form o4
        rw [hv] at h4 ⊢
        clear hv o4
        go_wp2
        go_ret2
        exact h4.done

set_option maxHeartbeats 400000 in
set_option maxRecDepth 100000 in
theorem exp_long_present_be (p : Option Addr) (n c : Nat) (xs : List Int) (s : ByteArray) (W : Nat) (sT : Bool) (w : World) (hn : n ≤ 1024) (hs : s.size ≤ 1024) (hW : W ≤ 8) (hlong : (decide ((s.size : Int) + 1 < 255) && !sT) = false) (hsrc : Bytes w p n xs) (hnil : p = none → n = 0 ∧ c = 0) :
    ExpSays w #[.slice p n c, .string s, .bool true, .bool sT, .int .i64 W, .bool true] (xs ++ [255] ++ part true (s.size + 1) W W ++ strBytes s) true := by
  unfold ExpSays
  obtain ⟨i0, hi, hz0, hz1, hz2⟩ := info_parts Ybaf.info5
  cases hd : decide ((s.size : Int) + 1 < 255) <;> cases sT <;> first | (rw [hd] at hlong; exact absurd hlong (by decide)) | skip
  all_goals
    clear hlong
    go_enter Ybaf.func7, Ybaf.ntmps7
    go_wp2_with (at_builtin; refine wpList_append_bytes rfl (.const (.slice none 0 0)) (.tmp 19) 22 rfl w.heap.size 5 i0 (.int .u8 0) 1 Ybaf.underlying22 hi hz0 hz1 hz2 rfl (.slice none 0 0) 0 [] rfl (World.ownsRow_nil _ _ _ _) p n c xs rfl hnil hsrc (by unfold maxLen; omega) (by omega) (Nat.le_refl _) ?_)
    intro v1 w1 hown1 hgrow1
    have h1 : Own w w1 v1 n xs := own_start hown1 hgrow1
    have o1 := h1.own
    have z1 := h1.bel.size
    clear hown1 hgrow1 hsrc hnil
    go_wp2_with (at_builtin; refine wpList_append_bytes rfl (.tmp 37) (.tmp 38) 22 rfl w.heap.size 5 i0 (.int .u8 0) 1 Ybaf.underlying22 hi hz0 hz1 hz2 rfl _ _ _ rfl (o1.alloc _) (some ⟨w1.heap.size, 0, none⟩) 1 1 [255] rfl (fun h => by cases h) (bytes_one w1 _) (by unfold maxLen; omega) (by omega) (by simp; omega) ?_)
    intro v2 w2 hown2 hgrow2
    have h2 : Own w w2 v2 (n + 1) (xs ++ [255]) := h1.append hgrow2 hown2
    clear hown2 hgrow2 h1 o1
    go_wp2
    go_loopw [14, 17] (fun v i wr => ∃ k : Nat, k ≤ W ∧ i = .int .i64 k ∧ Own w wr v (n + 1 + k) (xs ++ [255] ++ part true (s.size + 1) W k)) (fun _ i _ => W - (intOf i).toNat)
    case atStart => exact ⟨0, by omega, rfl, by simpa [part] using h2⟩
    case round =>
      clear h2 z1
      obtain ⟨k, hk, rfl, hO⟩ := hrel
      have oo := hO.own
      have zz := hO.bel.size
      by_cases hlt : k < W
      · go_wp2_with (at_builtin; refine wpList_append_bytes rfl (.tmp 51) (.tmp 58) 22 rfl w.heap.size 5 i0 (.int .u8 0) 1 Ybaf.underlying22 hi hz0 hz1 hz2 rfl _ _ _ rfl (oo.alloc _) (some ⟨wr.heap.size, 0, none⟩) 1 1 [((s.size : Int) + 1) / 2 ^ (8 * (W - 1 - k)) % 256] rfl (fun h => by cases h) (bytes_one wr _) (by unfold maxLen; omega) (by omega) (by simp; omega) ?_)
        intro v3 w3 hown3 hgrow3
        have R : Own w w3 v3 (n + 1 + k + 1) (xs ++ [255] ++ part true (s.size + 1) W k ++ [byteAt (s.size + 1) (if true then W - 1 - k else k)]) := hO.append hgrow3 (by rw [byteAt_succ]; simpa using hown3)
        rw [List.append_assoc (xs ++ [255]), ← part_succ] at R
        clear hown3 hgrow3 hO oo
        go_wp2
        go_roundw
        case rel => exact ⟨k + 1, by omega, by go_num, R⟩
        case measure => simp [intOf]; omega
      · obtain rfl : k = W := by omega
        go_wp2_with (at_builtin; refine wpList_append_text rfl (.tmp 61) (.tmp 62) 22 9 rfl w.heap.size 5 i0 Ybaf.underlying22 Ybaf.underlying9 hi hz0 hz1 hz2 _ _ _ rfl oo s rfl (by omega) (by omega) ?_)
        intro v4 w4 hown4 hgrow4
        have h4 : Own w w4 v4 (n + 1 + k + s.size) (xs ++ [255] ++ part true (s.size + 1) k k ++ strBytes s) := hO.text hgrow4 (by simpa using hown4)
        have o4 := h4.own
        clear hown4 hgrow4 hO oo
        obtain ⟨ao, cap, hv⟩ := own_form o4
        rw [hv] at h4 ⊢
        clear hv o4
        go_wp2
        go_ret2
        exact h4.done

end Go.Proofs.YbulkaepuFmt
