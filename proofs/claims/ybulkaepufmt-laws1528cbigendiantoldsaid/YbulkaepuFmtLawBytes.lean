/-
  The walk over 'LawS1528CBytes' (function 3), out of what 'string' and 'exp' say.
-/
import Derived.Test.YbulkaepuFmtString
import Derived.Test.YbulkaepuFmtExpLong
namespace Go.Proofs.YbulkaepuFmt
open Go.RowKit

theorem Bytes.belowB {B : Nat} {w w' : World} {p : Option Addr} {n : Nat} {xs : List Int} (h : Bytes w p n xs) (hb : Below B w w') (hp : 0 < n → ∀ a, p = some a → a.block < B) : Bytes w' p n xs :=
  ⟨h.1, fun hn => by
    obtain ⟨b, o, e, hcell⟩ := h.2 hn
    refine ⟨b, o, e, fun i hi => ?_⟩
    rw [hb.cell (p := ⟨b, o + i, none⟩) (hp hn ⟨b, o, none⟩ e)]
    exact hcell i hi⟩

/-- WHAT THE LAWS ARE TOLD OF AN ARGUMENT '[]byte'. -/
def Arg (w : World) (p : Option Addr) (n c : Nat) (xs : List Int) : Prop := Bytes w p n xs ∧ (p = none → n = 0 ∧ c = 0) ∧ (0 < n → ∀ a, p = some a → a.block < w.heap.size)

/-- 'zzs1528cwidth'. -/
theorem width_says (SZ : Int) (W : Nat) (w : World) (h : (W = 4 ∧ (SZ == 4) = true) ∨ (W = 8 ∧ (SZ == 4) = false)) :
    Calls Ybaf.prog 6 #[.int .i64 SZ] w fun e w' => e = .returned (.int .i64 (W : Int)) ∧ w' = w := by
  rcases h with ⟨rfl, h⟩ | ⟨rfl, h⟩
  all_goals
    go_enter Ybaf.func6, Ybaf.ntmps6
    go_wp2
    go_ret
    exact ⟨rfl, rfl⟩

theorem enc_start {w1 : World} {B n cap : Nat} {ao : Option Addr} {xs : List Int} (ord : Value) (bl : Bool) (SZ : Int) (h : w1.ownsRow B 5 1 (.slice ao n cap) n (xs.map (Value.int .u8))) (hB : B ≤ w1.heap.size) :
    Enc B w1.heap.size (w1.alloc (.cells #[.slice ao n cap, ord, .bool bl, .int .i64 0, .int .i64 SZ, .int .i64 0, .int .i64 0, .int .i64 0, .nilIface] 35)) ord bl SZ n xs := ⟨ao, cap, heap_alloc_new w1 _, h.alloc _, hB⟩

theorem Log1.below {w w' : World} {O : Nat} {W : Int} (h : Log1 w O W) (hb : Below w.heap.size w w') : Log1 w' O W := by
  obtain ⟨g, cap, cur, h1, h2, h3⟩ := h
  exact ⟨g, cap, cur, by rw [hb.block O (Array.getElem?_eq_some_iff.1 h1).1]; exact h1, by rw [hb.block g (Array.getElem?_eq_some_iff.1 h2).1]; exact h2, h3⟩
theorem Log0.below {w w' : World} {O : Nat} (h : Log0 w O) (hb : Below w.heap.size w w') : Log0 w' O := by
  unfold Log0 at h ⊢
  rw [hb.block O (Array.getElem?_eq_some_iff.1 h).1]; exact h

theorem stays_log0 {E O : Nat} (hEO : O ≠ E) : Stays E (fun w => Log0 w O) := fun w w' _ hk h => hk.at h (by decide) hEO
/-- THE LOG HOLDS ONE CALL, and neither it nor its row is the encoder's block. -/
def LogE (E O : Nat) (W : Int) (w : World) : Prop := O ≠ E ∧ ∃ h cap cur, h ≠ E ∧ w.heap[O]? = some (.cells #[.slice (some ⟨h, 0, none⟩) 1 cap] 26 (0, 0)) ∧ w.heap[h]? = some (.cells cur 3 (0, 0)) ∧ cur[0]? = some (.int .i64 W)
theorem LogE.log1 {E O : Nat} {W : Int} {w : World} (h : LogE E O W w) : Log1 w O W := by
  obtain ⟨_, g, cap, cur, _, h1, h2, h3⟩ := h
  exact ⟨g, cap, cur, h1, h2, h3⟩
theorem logE_of {B E O : Nat} {W : Int} {w : World} {ord : Value} {bl : Bool} {SZ : Int} {n : Nat} {xs : List Int} (h : Log1 w O W) (hE : Enc B E w ord bl SZ n xs) : LogE E O W w := by
  obtain ⟨g, cap, cur, h1, h2, h3⟩ := h
  obtain ⟨ao, cp, hh, _, _⟩ := hE
  exact ⟨fun e => by subst e; rw [hh] at h1; simp at h1, g, cap, cur, fun e => by subst e; rw [hh] at h2; simp at h2, h1, h2, h3⟩
theorem stays_logE (E O : Nat) (W : Int) : Stays E (LogE E O W) := fun w w' _ hk h => by
  obtain ⟨hO, g, cap, cur, hg, h1, h2, h3⟩ := h
  exact ⟨hO, g, cap, cur, hg, hk.at h1 (by decide) hO, hk.at h2 (by decide) hg, h3⟩

set_option maxHeartbeats 800000 in
set_option maxRecDepth 100000 in
theorem law_long (p : Option Addr) (n c : Nat) (xs : List Int) (s : ByteArray) (b sT : Bool) (SZ off : Int) (W M : Nat) (ys : List Int) (w : World) (h0 : Arg w p n c xs) (hn : n ≤ 1024) (hs : s.size ≤ 1024) (hW : (W = 4 ∧ (SZ == 4) = true) ∨ (W = 8 ∧ (SZ == 4) = false))
    (hstr : ∀ E f w3, E ≠ w.heap.size → Enc w.heap.size E w3 (.iface 23 (.pointer (some ⟨w.heap.size, 0, none⟩))) false SZ n xs → Log0 w3 w.heap.size →
      Calls Ybaf.prog 5 #[.pointer (some ⟨E, 0, none⟩), f, .agg #[.string s, .bool b, .bool sT]] w3 fun e w' => e = .returned (.tuple #[]) ∧ Enc w.heap.size E w' (.iface 23 (.pointer (some ⟨w.heap.size, 0, none⟩))) false SZ M ys ∧ Log1 w' w.heap.size W ∧ Below w.heap.size w3 w')
    (hexp : ∀ w4, Bytes w4 p n xs → Calls Ybaf.prog 7 #[.slice p n c, .string s, .bool b, .bool sT, .int .i64 (W : Int), .bool false] w4 fun e w' => ∃ ao cap, e = .returned (.tuple #[.slice ao M cap, .bool true]) ∧ Bytes w' ao M ys ∧ Below w4.heap.size w4 w') :
    Calls Ybaf.prog 3 #[.slice p n c, .string s, .bool b, .bool sT, .int .i64 SZ, .int .i64 off] w fun e w' => e = .returned (.bool true) ∧ Below w.heap.size w w' := by
  obtain ⟨hsrc, hnil, hold⟩ := h0
  obtain ⟨i0, hi, hz0, hz1, hz2⟩ := info_parts Ybaf.info5
  have hd : decide (1024 < (n : Int)) = false := by simp; omega
  have hd2 : decide (1024 < (s.size : Int)) = false := by simp; omega
  have HSTR : Hid (∀ E f w3, E ≠ w.heap.size → Enc w.heap.size E w3 (.iface 23 (.pointer (some ⟨w.heap.size, 0, none⟩))) false SZ n xs → Log0 w3 w.heap.size →
      Calls Ybaf.prog 5 #[.pointer (some ⟨E, 0, none⟩), f, .agg #[.string s, .bool b, .bool sT]] w3 fun e w' => e = .returned (.tuple #[]) ∧ Enc w.heap.size E w' (.iface 23 (.pointer (some ⟨w.heap.size, 0, none⟩))) false SZ M ys ∧ Log1 w' w.heap.size W ∧ Below w.heap.size w3 w') := hstr
  have HEXP : Hid (∀ w4, Bytes w4 p n xs → Calls Ybaf.prog 7 #[.slice p n c, .string s, .bool b, .bool sT, .int .i64 (W : Int), .bool false] w4 fun e w' => ∃ ao cap, e = .returned (.tuple #[.slice ao M cap, .bool true]) ∧ Bytes w' ao M ys ∧ Below w4.heap.size w4 w') := hexp
  have HW : Hid ((W = 4 ∧ (SZ == 4) = true) ∨ (W = 8 ∧ (SZ == 4) = false)) := hW
  clear hstr hexp hW
  go_enter Ybaf.func3, Ybaf.ntmps3
  go_wp2_with (at_builtin; refine wpList_append_bytes rfl _ _ 22 rfl w.heap.size 5 i0 (.int .u8 0) 1 Ybaf.underlying22 hi hz0 hz1 hz2 rfl (.slice none 0 0) 0 [] rfl (World.ownsRow_nil _ _ _ _) p n c xs rfl hnil ?hsrc (by unfold maxLen; omega) (by omega) ?hb ?_)
  case hsrc => exact hsrc.below ((Below.refl _ _).alloc (Nat.le_refl _) _)
  case hb => simp
  intro v' w1 hown' hgrow
  obtain ⟨ao', cap', hv⟩ := own_form hown'
  rw [hv] at hown' ⊢
  clear hv
  have hB1 : Below w.heap.size w w1 := ((Below.refl _ _).alloc (Nat.le_refl _) _).grown hgrow (by simp) (fun k hk => by simp [Value.ownBlock] at hk)
  have hsz : w.heap.size + 1 ≤ w1.heap.size := by have := hgrow.size; simpa using this
  have HE : Hid (Enc w.heap.size w1.heap.size (w1.alloc (.cells #[.slice ao' n cap', .iface 23 (.pointer (some ⟨w.heap.size, 0, none⟩)), .bool false, .int .i64 0, .int .i64 SZ, .int .i64 0, .int .i64 0, .int .i64 0, .nilIface] 35)) (.iface 23 (.pointer (some ⟨w.heap.size, 0, none⟩))) false SZ n xs) := enc_start _ _ _ hown' (by omega)
  have HL : Hid (w1.heap[w.heap.size]? = some (.cells #[.slice none 0 0] 26 (0, 0))) := by
    unfold Hid
    rw [hgrow.block _ (by simp) (by simp [Value.ownBlock])]
    exact heap_alloc_new w _
  clear hown' hgrow
  go_wp2_with fail
  refine (HSTR.out w1.heap.size _ _ (by omega) (HE.out.alloc _) (by unfold Log0; rw [Below.heap_alloc _ _ _ (by simp; omega), Below.heap_alloc _ _ _ (by omega)]; exact HL.out)).mono ?_
  rintro e w4 ⟨rfl, hE4, hL4, hb4⟩
  have hB4 : Below w.heap.size w w4 := ((hB1.alloc (by omega) _).alloc (by simp; omega) _).trans hb4
  have HS4 : Hid (Bytes w4 p n xs) := hsrc.belowB hB4 hold
  have HL4 : Hid (Log1 w4 w.heap.size W) := hL4
  have HE4 : Hid (Enc w.heap.size w1.heap.size w4 (.iface 23 (.pointer (some ⟨w.heap.size, 0, none⟩))) false SZ M ys) := hE4
  clear HE HL hE4 hL4 hb4 hB1 hsrc hnil hold HSTR
  go_wp2_with fail
  refine (width_says SZ W _ HW.out).mono ?_
  rintro e w5 ⟨rfl, rfl⟩
  go_wp2_with fail
  refine (HEXP.out _ HS4.out).mono ?_
  rintro e w6 ⟨ao6, cap6, rfl, hs6, hb6⟩
  have hB6 : Below w.heap.size w w6 := hB4.trans (hb6.mono hB4.size)
  obtain ⟨aoe, cape, hh, howne, _⟩ := HE4.out
  have hse := (own_bytes howne).below hb6
  have hh6 : w6.heap[w1.heap.size]? = _ := (hb6.block _ (Array.getElem?_eq_some_iff.1 hh).1).trans hh
  obtain ⟨c0, _, _, c8, _, hl⟩ := enc_cells hh6
  obtain ⟨g, capg, cur, l1, l2, l3⟩ := HL4.out.below hb6
  have k0 : w6.cell? ⟨w.heap.size, 0, none⟩ = some (.slice (some ⟨g, 0, none⟩) 1 capg) := by simp [World.cell?, l1]
  have k1 : w6.cell? ⟨g, 0, none⟩ = some (.int .i64 (W : Int)) := by simp [World.cell?, l2, l3]
  clear hh howne hh6 hb6 hB4 HS4 HL4 HE4 l1 l2 l3 HEXP HW
  go_wp2_with fail
  refine (equal_true aoe ao6 M cape cap6 ys _ hse hs6).mono ?_
  rintro e w7 ⟨rfl, rfl⟩
  clear hse hs6
  go_wp2
  go_ret
  exact ⟨rfl, hB6⟩

set_option maxHeartbeats 800000 in
set_option maxRecDepth 100000 in
theorem law_short (p : Option Addr) (n c : Nat) (xs : List Int) (s : ByteArray) (b sT : Bool) (SZ off : Int) (W M : Nat) (ys : List Int) (w : World) (h0 : Arg w p n c xs) (hn : n ≤ 1024) (hs : s.size ≤ 1024) (hW : (W = 4 ∧ (SZ == 4) = true) ∨ (W = 8 ∧ (SZ == 4) = false))
    (hstr : ∀ E f w3, E ≠ w.heap.size → Enc w.heap.size E w3 (.iface 23 (.pointer (some ⟨w.heap.size, 0, none⟩))) false SZ n xs → Log0 w3 w.heap.size →
      Calls Ybaf.prog 5 #[.pointer (some ⟨E, 0, none⟩), f, .agg #[.string s, .bool b, .bool sT]] w3 fun e w' => e = .returned (.tuple #[]) ∧ Enc w.heap.size E w' (.iface 23 (.pointer (some ⟨w.heap.size, 0, none⟩))) false SZ M ys ∧ Log0 w' w.heap.size ∧ Below w.heap.size w3 w')
    (hexp : ∀ w4, Bytes w4 p n xs → Calls Ybaf.prog 7 #[.slice p n c, .string s, .bool b, .bool sT, .int .i64 (W : Int), .bool false] w4 fun e w' => ∃ ao cap, e = .returned (.tuple #[.slice ao M cap, .bool false]) ∧ Bytes w' ao M ys ∧ Below w4.heap.size w4 w') :
    Calls Ybaf.prog 3 #[.slice p n c, .string s, .bool b, .bool sT, .int .i64 SZ, .int .i64 off] w fun e w' => e = .returned (.bool true) ∧ Below w.heap.size w w' := by
  obtain ⟨hsrc, hnil, hold⟩ := h0
  obtain ⟨i0, hi, hz0, hz1, hz2⟩ := info_parts Ybaf.info5
  have hd : decide (1024 < (n : Int)) = false := by simp; omega
  have hd2 : decide (1024 < (s.size : Int)) = false := by simp; omega
  have HSTR : Hid (∀ E f w3, E ≠ w.heap.size → Enc w.heap.size E w3 (.iface 23 (.pointer (some ⟨w.heap.size, 0, none⟩))) false SZ n xs → Log0 w3 w.heap.size →
      Calls Ybaf.prog 5 #[.pointer (some ⟨E, 0, none⟩), f, .agg #[.string s, .bool b, .bool sT]] w3 fun e w' => e = .returned (.tuple #[]) ∧ Enc w.heap.size E w' (.iface 23 (.pointer (some ⟨w.heap.size, 0, none⟩))) false SZ M ys ∧ Log0 w' w.heap.size ∧ Below w.heap.size w3 w') := hstr
  have HEXP : Hid (∀ w4, Bytes w4 p n xs → Calls Ybaf.prog 7 #[.slice p n c, .string s, .bool b, .bool sT, .int .i64 (W : Int), .bool false] w4 fun e w' => ∃ ao cap, e = .returned (.tuple #[.slice ao M cap, .bool false]) ∧ Bytes w' ao M ys ∧ Below w4.heap.size w4 w') := hexp
  have HW : Hid ((W = 4 ∧ (SZ == 4) = true) ∨ (W = 8 ∧ (SZ == 4) = false)) := hW
  clear hstr hexp hW
  go_enter Ybaf.func3, Ybaf.ntmps3
  go_wp2_with (at_builtin; refine wpList_append_bytes rfl _ _ 22 rfl w.heap.size 5 i0 (.int .u8 0) 1 Ybaf.underlying22 hi hz0 hz1 hz2 rfl (.slice none 0 0) 0 [] rfl (World.ownsRow_nil _ _ _ _) p n c xs rfl hnil ?hsrc (by unfold maxLen; omega) (by omega) ?hb ?_)
  case hsrc => exact hsrc.below ((Below.refl _ _).alloc (Nat.le_refl _) _)
  case hb => simp
  intro v' w1 hown' hgrow
  obtain ⟨ao', cap', hv⟩ := own_form hown'
  rw [hv] at hown' ⊢
  clear hv
  have hB1 : Below w.heap.size w w1 := ((Below.refl _ _).alloc (Nat.le_refl _) _).grown hgrow (by simp) (fun k hk => by simp [Value.ownBlock] at hk)
  have hsz : w.heap.size + 1 ≤ w1.heap.size := by have := hgrow.size; simpa using this
  have HE : Hid (Enc w.heap.size w1.heap.size (w1.alloc (.cells #[.slice ao' n cap', .iface 23 (.pointer (some ⟨w.heap.size, 0, none⟩)), .bool false, .int .i64 0, .int .i64 SZ, .int .i64 0, .int .i64 0, .int .i64 0, .nilIface] 35)) (.iface 23 (.pointer (some ⟨w.heap.size, 0, none⟩))) false SZ n xs) := enc_start _ _ _ hown' (by omega)
  have HL : Hid (w1.heap[w.heap.size]? = some (.cells #[.slice none 0 0] 26 (0, 0))) := by
    unfold Hid
    rw [hgrow.block _ (by simp) (by simp [Value.ownBlock])]
    exact heap_alloc_new w _
  clear hown' hgrow
  go_wp2_with fail
  refine (HSTR.out w1.heap.size _ _ (by omega) (HE.out.alloc _) (by unfold Log0; rw [Below.heap_alloc _ _ _ (by simp; omega), Below.heap_alloc _ _ _ (by omega)]; exact HL.out)).mono ?_
  rintro e w4 ⟨rfl, hE4, hL4, hb4⟩
  have hB4 : Below w.heap.size w w4 := ((hB1.alloc (by omega) _).alloc (by simp; omega) _).trans hb4
  have HS4 : Hid (Bytes w4 p n xs) := hsrc.belowB hB4 hold
  have HL4 : Hid (Log0 w4 w.heap.size) := hL4
  have HE4 : Hid (Enc w.heap.size w1.heap.size w4 (.iface 23 (.pointer (some ⟨w.heap.size, 0, none⟩))) false SZ M ys) := hE4
  clear HE HL hE4 hL4 hb4 hB1 hsrc hnil hold HSTR
  go_wp2_with fail
  refine (width_says SZ W _ HW.out).mono ?_
  rintro e w5 ⟨rfl, rfl⟩
  go_wp2_with fail
  refine (HEXP.out _ HS4.out).mono ?_
  rintro e w6 ⟨ao6, cap6, rfl, hs6, hb6⟩
  have hB6 : Below w.heap.size w w6 := hB4.trans (hb6.mono hB4.size)
  obtain ⟨aoe, cape, hh, howne, _⟩ := HE4.out
  have hse := (own_bytes howne).below hb6
  have hh6 : w6.heap[w1.heap.size]? = _ := (hb6.block _ (Array.getElem?_eq_some_iff.1 hh).1).trans hh
  obtain ⟨c0, _, _, c8, _, hl⟩ := enc_cells hh6
  have l1 : w6.heap[w.heap.size]? = some (.cells #[.slice none 0 0] 26 (0, 0)) := HL4.out.below hb6
  have k0 : w6.cell? ⟨w.heap.size, 0, none⟩ = some (.slice none 0 0) := by simp [World.cell?, l1]
  clear hh howne hh6 hb6 hB4 HS4 HL4 HE4 l1 HEXP HW
  go_wp2_with fail
  refine (equal_true aoe ao6 M cape cap6 ys _ hse hs6).mono ?_
  rintro e w7 ⟨rfl, rfl⟩
  clear hse hs6
  go_wp2
  go_ret
  exact ⟨rfl, hB6⟩

/-- .. of texts that are too long for the law to look at. -/
theorem law_far (p : Option Addr) (n c : Nat) (s : ByteArray) (b sT : Bool) (SZ off : Int) (w : World) (hn : 1024 < n) :
    Calls Ybaf.prog 3 #[.slice p n c, .string s, .bool b, .bool sT, .int .i64 SZ, .int .i64 off] w fun e w' => e = .returned (.bool true) ∧ Below w.heap.size w w' := by
  have hd : decide (1024 < (n : Int)) = true := by simp; omega
  go_enter Ybaf.func3, Ybaf.ntmps3
  go_wp2
  go_ret
  exact ⟨rfl, Below.refl _ _⟩

theorem law_far2 (p : Option Addr) (n c : Nat) (s : ByteArray) (b sT : Bool) (SZ off : Int) (w : World) (hn : n ≤ 1024) (hs : 1024 < s.size) :
    Calls Ybaf.prog 3 #[.slice p n c, .string s, .bool b, .bool sT, .int .i64 SZ, .int .i64 off] w fun e w' => e = .returned (.bool true) ∧ Below w.heap.size w w' := by
  have hd : decide (1024 < (n : Int)) = false := by simp; omega
  have hd2 : decide (1024 < (s.size : Int)) = true := by simp; omega
  go_enter Ybaf.func3, Ybaf.ntmps3
  go_wp2
  go_ret
  exact ⟨rfl, Below.refl _ _⟩

/-! ### 'uint' over the law's own order, in the words of 'size' -/
theorem uint_says_own (B E O : Nat) (bl : Bool) (SZ : Int) (N W : Nat) (hN : N ≤ 2000) (hW : (W = 4 ∧ (SZ == 4) = true) ∨ (W = 8 ∧ (SZ == 4) = false)) (hBO : B ≤ O) :
    UintSays B E (.iface 23 (.pointer (some ⟨O, 0, none⟩))) bl SZ (fun w => Log0 w O) (LogE E O (W : Int)) N (le N W) := by
  intro n xs w hn hE hP
  rcases hW with ⟨rfl, h⟩ | ⟨rfl, h⟩
  · obtain rfl : SZ = 4 := by simpa using h
    refine (uint_own4 B E O bl 4 n xs N w hn hN hE hBO hP).mono fun e w' ⟨h1, h2, h3, h4, h5⟩ => ⟨h1, ?_, logE_of h3 h2, h4, h5⟩
    rw [le_length]; exact h2
  · refine (uint_own8 B E O bl SZ n xs N SZ w h hn hE hBO hP).mono fun e w' ⟨h1, h2, h3, h4, h5⟩ => ⟨h1, ?_, logE_of h3 h2, h4, h5⟩
    rw [le_length]; exact h2

theorem ExpSays.out {w : World} {args : Array Value} {ys : List Int} {long : Bool} (h : ExpSays w args ys long) : Calls Ybaf.prog 7 args w fun e w' => ∃ ao cap, e = .returned (.tuple #[.slice ao ys.length cap, .bool long]) ∧ Bytes w' ao ys.length ys ∧ Below w.heap.size w w' := h
theorem length_of3 {xs bs : List Int} {n : Nat} (s : ByteArray) (h : xs.length = n) : n + bs.length + s.size = (xs ++ bs ++ strBytes s).length := by simp [h, strBytes_length]; omega
theorem length_of {xs bs : List Int} {n : Nat} (h : xs.length = n) : n + bs.length = (xs ++ bs).length := by simp [h]

/-- THE LAW, over every input that it looks at. -/
theorem bytes_law (p : Option Addr) (n c : Nat) (xs : List Int) (s : ByteArray) (b sT : Bool) (SZ off : Int) (w : World) (h0 : Arg w p n c xs) (hn : n ≤ 1024) (hs : s.size ≤ 1024) :
    Calls Ybaf.prog 3 #[.slice p n c, .string s, .bool b, .bool sT, .int .i64 SZ, .int .i64 off] w fun e w' => e = .returned (.bool true) ∧ Below w.heap.size w w' := by
  obtain ⟨W, hW⟩ : ∃ W : Nat, (W = 4 ∧ (SZ == 4) = true) ∨ (W = 8 ∧ (SZ == 4) = false) := by
    cases h : (SZ == 4)
    · exact ⟨8, Or.inr ⟨rfl, rfl⟩⟩
    · exact ⟨4, Or.inl ⟨rfl, rfl⟩⟩
  have hW8 : W ≤ 8 := by omega
  have hx : xs.length = n := h0.1.1
  have hnil := h0.2.1
  have pre : ∀ E, E ≠ w.heap.size → Stays E (fun w' => Log0 w' w.heap.size) := fun E hE => stays_log0 (Ne.symm hE)
  cases b with
  | false =>
    cases sT with
    | false =>
      refine law_short p n c xs s false false SZ off W (List.length (xs ++ [(0 : Int)])) (xs ++ [0]) w h0 hn hs hW (fun E f w3 hEO hE hL => ?_) (fun w4 hb => (exp_short_absent p n c xs s W false w4 hn hb hnil).out)
      refine (string_absent w.heap.size E _ false SZ _ _ f false [((0 : Nat) : Int)] s n xs w3 (by omega) (size_says_short w.heap.size E _ false SZ _ f 0 (by omega) (pre E hEO)) (pre E hEO) hE hL).mono fun e w' ⟨h1, h2, h3, h4⟩ => ⟨h1, ?_, h3, h4⟩
      rw [length_of hx] at h2; exact h2
    | true =>
      have ey : xs ++ 255 :: le 0 W = xs ++ [255] ++ part false 0 W W := by rw [part_all_le]; simp
      refine law_long p n c xs s false true SZ off W (xs ++ [255] ++ part false 0 W W).length (xs ++ [255] ++ part false 0 W W) w h0 hn hs hW (fun E f w3 hEO hE hL => ?_) (fun w4 hb => (exp_long_absent_le p n c xs s W w4 hn hW8 hb hnil).out)
      refine (string_absent w.heap.size E _ false SZ _ _ f true (255 :: le 0 W) s n xs w3 (by omega) (size_says_long w.heap.size E _ false SZ _ _ f 0 true (le 0 W) (by omega) (by simp) (uint_says_own _ E _ false SZ 0 W (by omega) hW (Nat.le_refl _)) (pre E hEO)) (pre E hEO) hE hL).mono fun e w' ⟨h1, h2, h3, h4⟩ => ⟨h1, ?_, h3.log1, h4⟩
      rw [length_of hx, ey] at h2; exact h2
  | true =>
    cases hlong : (decide ((s.size : Int) + 1 < 255) && !sT) with
    | true =>
      simp at hlong
      obtain ⟨hl, rfl⟩ := hlong
      have ey : xs ++ [((s.size + 1 : Nat) : Int)] ++ strBytes s = xs ++ [(s.size : Int) + 1] ++ strBytes s := by rw [show ((s.size + 1 : Nat) : Int) = (s.size : Int) + 1 from by omega]
      refine law_short p n c xs s true false SZ off W (xs ++ [(s.size : Int) + 1] ++ strBytes s).length (xs ++ [(s.size : Int) + 1] ++ strBytes s) w h0 hn hs hW (fun E f w3 hEO hE hL => ?_) (fun w4 hb => (exp_short_present p n c xs s W false w4 hn (by omega) hb hnil).out)
      refine (string_present w.heap.size E _ false SZ _ _ f false [((s.size + 1 : Nat) : Int)] s n xs w3 (by omega) (by simp) hs (size_says_short w.heap.size E _ false SZ _ f (s.size + 1) (by omega) (pre E hEO)) (pre E hEO) (pre E hEO) hE hL).mono fun e w' ⟨h1, h2, h3, h4⟩ => ⟨h1, ?_, h3, h4⟩
      rw [length_of3 s hx, ey] at h2; exact h2
    | false =>
      have ey : xs ++ 255 :: le (s.size + 1) W ++ strBytes s = xs ++ [255] ++ part false (s.size + 1) W W ++ strBytes s := by rw [part_all_le]; simp
      have hlong' : (decide (((s.size + 1 : Nat) : Int) < 255) && !sT) = false := by rw [show ((s.size + 1 : Nat) : Int) = (s.size : Int) + 1 from by omega]; exact hlong
      refine law_long p n c xs s true sT SZ off W (xs ++ [255] ++ part false (s.size + 1) W W ++ strBytes s).length (xs ++ [255] ++ part false (s.size + 1) W W ++ strBytes s) w h0 hn hs hW (fun E f w3 hEO hE hL => ?_) (fun w4 hb => (exp_long_present_le p n c xs s W sT w4 hn hs hW8 hlong hb hnil).out)
      refine (string_present w.heap.size E _ false SZ _ _ f sT (255 :: le (s.size + 1) W) s n xs w3 (by omega) (by simp [le_length]; omega) hs (size_says_long w.heap.size E _ false SZ _ _ f (s.size + 1) sT (le (s.size + 1) W) (by omega) hlong' (uint_says_own _ E _ false SZ (s.size + 1) W (by omega) hW (Nat.le_refl _)) (pre E hEO)) (pre E hEO) (stays_logE E _ _) hE hL).mono fun e w' ⟨h1, h2, h3, h4⟩ => ⟨h1, ?_, h3.log1, h4⟩
      rw [length_of3 s hx, ey] at h2; exact h2

end Go.Proofs.YbulkaepuFmt
