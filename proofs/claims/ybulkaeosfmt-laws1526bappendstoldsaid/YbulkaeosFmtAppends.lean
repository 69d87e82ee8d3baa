/-
  The walk over 'LawS1526BAppends' (function 3).
-/
import Derived.Test.YbulkaeosFmtTooLong
import Derived.LaidEql
namespace Go.Proofs.YbulkaeosFmt
open Go.RowKit Go.Extern.Stop Go.Stop Go.Extern

theorem Ybaf.info34 : (Ybaf.prog.info? 34).map (fun i => i.comparable) = some true := by kernel_rfl
theorem Ybaf.info36 : (Ybaf.prog.info? 36).isSome = true := by kernel_rfl

/-- '==' between an error of errors.New's make and itself. -/
theorem eqlErr (a : Addr) (w : World) : (binOp .eql 24 (.iface 34 (.pointer (some a))) (.iface 34 (.pointer (some a)))).run Ybaf.prog w = .ok (.bool true) w := by
  obtain ⟨i, hi, hc⟩ := Option.map_eq_some_iff.1 Ybaf.info34
  obtain ⟨j, hj⟩ := Option.isSome_iff_exists.1 Ybaf.info36
  exact run_eql_iface_ptr_same w a Ybaf.underlying24 Ybaf.underlying34 hi hc hj

set_option maxHeartbeats 400000 in
theorem appends_failed_one (F : Interp) (p : Option Addr) (n c : Nat) (xs : List Int) (q : Option Addr) (m d : Nat) (w : World) (hF : F.answers w.tape) (h0 : Arg w p n c xs) (hn : n ≤ 4096) (hm : m ≤ 70000) :
    Calls Ybaf.prog 3 #[.slice p n c, .slice q m d, .bool false, .bool true] w fun e w' => e = .returned (.bool true) ∧ Below w.heap.size w w' := by
  obtain ⟨hsrc, hnil, hold⟩ := h0
  obtain ⟨i0, hi, hz0, hz1, hz2⟩ := info_parts Ybaf.info5
  have hd : decide (4096 < (n : Int)) = false := by simp; omega
  have hd2 : decide (70000 < (m : Int)) = false := by simp; omega
  have heq := eqlErr
  go_enter Ybaf.func3, Ybaf.ntmps3
  go_wp2_with (first | (at_builtin; refine wpList_append_bytes rfl _ _ 22 rfl w.heap.size 5 i0 (.int .u8 0) 1 Ybaf.underlying22 hi hz0 hz1 hz2 rfl (.slice none 0 0) 0 [] rfl (World.ownsRow_nil _ _ _ _) p n c xs rfl hnil ?hsrc (by unfold maxLen; omega) (by omega) ?hb ?_) | (go_at_call 5; go_in))
  case hsrc => exact hsrc.below ((Below.refl _ _).alloc (Nat.le_refl _) _)
  case hb => simp
  intro v' w1 hown' hgrow
  obtain ⟨ao', cap', hv⟩ := own_form hown'
  rw [hv] at hown' ⊢
  clear hv
  have hB1 : Below w.heap.size w w1 := ((Below.refl _ _).alloc (Nat.le_refl _) _).grown hgrow (by simp) (fun k hk => by simp [Value.ownBlock] at hk)
  have hsz := hB1.size
  have HE : Hid (Enc w.heap.size w1.heap.size (w1.alloc (.cells #[.slice ao' n cap', .iface 34 (.pointer (some ⟨w.heap.size, 0, none⟩))] 28)) (.iface 34 (.pointer (some ⟨w.heap.size, 0, none⟩))) n xs) := enc_start hown' hsz _
  have hB2 : Below w.heap.size w (w1.alloc (.cells #[.slice ao' n cap', .iface 34 (.pointer (some ⟨w.heap.size, 0, none⟩))] 28)) := hB1.alloc hsz _
  clear hown' hgrow
  go_wp2_with fail
  refine (prefixed_failed_one F w.heap.size w1.heap.size _ _ n xs _ _ _ _ _ (by show F.answers w1.tape; rw [hB1.tape]; exact hF) HE.out hm).mono ?_
  rintro e w2 ⟨rfl, hE2, hb2⟩
  have hB3 : Below w.heap.size w w2 := hB2.trans hb2
  obtain ⟨ao2, cap2, hh, hown2, hBE⟩ := hE2
  obtain ⟨c0, c1, f0, f1, hl⟩ := two_cells hh
  have hs1 := own_bytes hown2
  have hs2 := hsrc.belowB hB3 hold
  clear hh hown2 hB1 hB2 hb2 HE hsrc hold hnil
  go_wp2_with (go_at_call 7; refine (equal_true ao2 p n cap2 c xs _ hs1 hs2).mono ?_; rintro e w3 ⟨rfl, rfl⟩)
  go_ret
  exact ⟨rfl, hB3⟩

set_option maxHeartbeats 400000 in
theorem appends_long_one (F : Interp) (p : Option Addr) (n c : Nat) (xs : List Int) (q : Option Addr) (m d : Nat) (w : World) (hF : F.answers w.tape) (h0 : Arg w p n c xs) (hn : n ≤ 4096) (hlo : 255 < m) (hm : m ≤ 70000) :
    Calls Ybaf.prog 3 #[.slice p n c, .slice q m d, .bool false, .bool false] w fun e w' => e = .returned (.bool true) ∧ Below w.heap.size w w' := by
  obtain ⟨hsrc, hnil, hold⟩ := h0
  obtain ⟨i0, hi, hz0, hz1, hz2⟩ := info_parts Ybaf.info5
  have hd : decide (4096 < (n : Int)) = false := by simp; omega
  have hd2 : decide (70000 < (m : Int)) = false := by simp; omega
  have hd3 : decide (255 < (m : Int)) = true := by simp; omega
  go_enter Ybaf.func3, Ybaf.ntmps3
  go_wp2_with (first | (at_builtin; refine wpList_append_bytes rfl _ _ 22 rfl w.heap.size 5 i0 (.int .u8 0) 1 Ybaf.underlying22 hi hz0 hz1 hz2 rfl (.slice none 0 0) 0 [] rfl (World.ownsRow_nil _ _ _ _) p n c xs rfl hnil hsrc (by unfold maxLen; omega) (by omega) (Nat.le_refl _) ?_) | (go_at_call 5; go_in))
  intro v' w1 hown' hgrow
  obtain ⟨ao', cap', hv⟩ := own_form hown'
  rw [hv] at hown' ⊢
  clear hv
  have hB1 : Below w.heap.size w w1 := (Below.refl _ _).grown hgrow (Nat.le_refl _) (fun k hk => by simp [Value.ownBlock] at hk)
  have hsz := hB1.size
  have HE : Hid (Enc w.heap.size w1.heap.size (w1.alloc (.cells #[.slice ao' n cap', .nilIface] 28)) .nilIface n xs) := enc_start hown' hsz _
  have hB2 : Below w.heap.size w (w1.alloc (.cells #[.slice ao' n cap', .nilIface] 28)) := hB1.alloc hsz _
  clear hown' hgrow
  go_wp2_with fail
  refine (prefixed_long_one F w.heap.size w1.heap.size n xs _ _ _ _ _ (by show F.answers w1.tape; rw [hB1.tape]; exact hF) HE.out hlo hm).mono ?_
  rintro e w2 ⟨rfl, ⟨t, y, hE2⟩, hb2⟩
  have hB3 : Below w.heap.size w w2 := hB2.trans hb2
  obtain ⟨ao2, cap2, hh, hown2, hBE⟩ := hE2
  obtain ⟨c0, c1, f0, f1, hl⟩ := two_cells hh
  have hs1 := own_bytes hown2
  have hs2 := hsrc.belowB hB3 hold
  clear hh hown2 hB1 hB2 hb2 HE hsrc hold hnil
  go_wp2_with (go_at_call 7; refine (equal_true ao2 p n cap2 c xs _ hs1 hs2).mono ?_; rintro e w3 ⟨rfl, rfl⟩)
  go_ret
  exact ⟨rfl, hB3⟩

set_option maxHeartbeats 400000 in
theorem appends_failed_two (F : Interp) (p : Option Addr) (n c : Nat) (xs : List Int) (q : Option Addr) (m d : Nat) (w : World) (hF : F.answers w.tape) (h0 : Arg w p n c xs) (hn : n ≤ 4096) (hm : m ≤ 70000) :
    Calls Ybaf.prog 3 #[.slice p n c, .slice q m d, .bool true, .bool true] w fun e w' => e = .returned (.bool true) ∧ Below w.heap.size w w' := by
  obtain ⟨hsrc, hnil, hold⟩ := h0
  obtain ⟨i0, hi, hz0, hz1, hz2⟩ := info_parts Ybaf.info5
  have hd : decide (4096 < (n : Int)) = false := by simp; omega
  have hd2 : decide (70000 < (m : Int)) = false := by simp; omega
  have heq := eqlErr
  go_enter Ybaf.func3, Ybaf.ntmps3
  go_wp2_with (first | (at_builtin; refine wpList_append_bytes rfl _ _ 22 rfl w.heap.size 5 i0 (.int .u8 0) 1 Ybaf.underlying22 hi hz0 hz1 hz2 rfl (.slice none 0 0) 0 [] rfl (World.ownsRow_nil _ _ _ _) p n c xs rfl hnil ?hsrc (by unfold maxLen; omega) (by omega) ?hb ?_) | (go_at_call 5; go_in))
  case hsrc => exact hsrc.below ((Below.refl _ _).alloc (Nat.le_refl _) _)
  case hb => simp
  intro v' w1 hown' hgrow
  obtain ⟨ao', cap', hv⟩ := own_form hown'
  rw [hv] at hown' ⊢
  clear hv
  have hB1 : Below w.heap.size w w1 := ((Below.refl _ _).alloc (Nat.le_refl _) _).grown hgrow (by simp) (fun k hk => by simp [Value.ownBlock] at hk)
  have hsz := hB1.size
  have HE : Hid (Enc w.heap.size w1.heap.size (w1.alloc (.cells #[.slice ao' n cap', .iface 34 (.pointer (some ⟨w.heap.size, 0, none⟩))] 28)) (.iface 34 (.pointer (some ⟨w.heap.size, 0, none⟩))) n xs) := enc_start hown' hsz _
  have hB2 : Below w.heap.size w (w1.alloc (.cells #[.slice ao' n cap', .iface 34 (.pointer (some ⟨w.heap.size, 0, none⟩))] 28)) := hB1.alloc hsz _
  clear hown' hgrow
  go_wp2_with fail
  refine (prefixed_failed_two F w.heap.size w1.heap.size _ _ n xs _ _ _ _ _ (by show F.answers w1.tape; rw [hB1.tape]; exact hF) HE.out hm).mono ?_
  rintro e w2 ⟨rfl, hE2, hb2⟩
  have hB3 : Below w.heap.size w w2 := hB2.trans hb2
  obtain ⟨ao2, cap2, hh, hown2, hBE⟩ := hE2
  obtain ⟨c0, c1, f0, f1, hl⟩ := two_cells hh
  have hs1 := own_bytes hown2
  have hs2 := hsrc.belowB hB3 hold
  clear hh hown2 hB1 hB2 hb2 HE hsrc hold hnil
  go_wp2_with (go_at_call 7; refine (equal_true ao2 p n cap2 c xs _ hs1 hs2).mono ?_; rintro e w3 ⟨rfl, rfl⟩)
  go_ret
  exact ⟨rfl, hB3⟩

set_option maxHeartbeats 400000 in
theorem appends_long_two (F : Interp) (p : Option Addr) (n c : Nat) (xs : List Int) (q : Option Addr) (m d : Nat) (w : World) (hF : F.answers w.tape) (h0 : Arg w p n c xs) (hn : n ≤ 4096) (hlo : 65535 < m) (hm : m ≤ 70000) :
    Calls Ybaf.prog 3 #[.slice p n c, .slice q m d, .bool true, .bool false] w fun e w' => e = .returned (.bool true) ∧ Below w.heap.size w w' := by
  obtain ⟨hsrc, hnil, hold⟩ := h0
  obtain ⟨i0, hi, hz0, hz1, hz2⟩ := info_parts Ybaf.info5
  have hd : decide (4096 < (n : Int)) = false := by simp; omega
  have hd2 : decide (70000 < (m : Int)) = false := by simp; omega
  have hd3 : decide (65535 < (m : Int)) = true := by simp; omega
  go_enter Ybaf.func3, Ybaf.ntmps3
  go_wp2_with (first | (at_builtin; refine wpList_append_bytes rfl _ _ 22 rfl w.heap.size 5 i0 (.int .u8 0) 1 Ybaf.underlying22 hi hz0 hz1 hz2 rfl (.slice none 0 0) 0 [] rfl (World.ownsRow_nil _ _ _ _) p n c xs rfl hnil hsrc (by unfold maxLen; omega) (by omega) (Nat.le_refl _) ?_) | (go_at_call 5; go_in))
  intro v' w1 hown' hgrow
  obtain ⟨ao', cap', hv⟩ := own_form hown'
  rw [hv] at hown' ⊢
  clear hv
  have hB1 : Below w.heap.size w w1 := (Below.refl _ _).grown hgrow (Nat.le_refl _) (fun k hk => by simp [Value.ownBlock] at hk)
  have hsz := hB1.size
  have HE : Hid (Enc w.heap.size w1.heap.size (w1.alloc (.cells #[.slice ao' n cap', .nilIface] 28)) .nilIface n xs) := enc_start hown' hsz _
  have hB2 : Below w.heap.size w (w1.alloc (.cells #[.slice ao' n cap', .nilIface] 28)) := hB1.alloc hsz _
  clear hown' hgrow
  go_wp2_with fail
  refine (prefixed_long_two F w.heap.size w1.heap.size n xs _ _ _ _ _ (by show F.answers w1.tape; rw [hB1.tape]; exact hF) HE.out hlo hm).mono ?_
  rintro e w2 ⟨rfl, ⟨t, y, hE2⟩, hb2⟩
  have hB3 : Below w.heap.size w w2 := hB2.trans hb2
  obtain ⟨ao2, cap2, hh, hown2, hBE⟩ := hE2
  obtain ⟨c0, c1, f0, f1, hl⟩ := two_cells hh
  have hs1 := own_bytes hown2
  have hs2 := hsrc.belowB hB3 hold
  clear hh hown2 hB1 hB2 hb2 HE hsrc hold hnil
  go_wp2_with (go_at_call 7; refine (equal_true ao2 p n cap2 c xs _ hs1 hs2).mono ?_; rintro e w3 ⟨rfl, rfl⟩)
  go_ret
  exact ⟨rfl, hB3⟩

theorem appends_far (p : Option Addr) (n c : Nat) (q : Option Addr) (m d : Nat) (b f : Bool) (w : World) (hn : 4096 < n) :
    Calls Ybaf.prog 3 #[.slice p n c, .slice q m d, .bool b, .bool f] w fun e w' => e = .returned (.bool true) ∧ Below w.heap.size w w' := by
  have hd : decide (4096 < (n : Int)) = true := by simp; omega
  go_enter Ybaf.func3, Ybaf.ntmps3
  go_wp2
  go_ret
  exact ⟨rfl, Below.refl _ _⟩

theorem appends_far2 (p : Option Addr) (n c : Nat) (q : Option Addr) (m d : Nat) (b f : Bool) (w : World) (hn : n ≤ 4096) (hm : 70000 < m) :
    Calls Ybaf.prog 3 #[.slice p n c, .slice q m d, .bool b, .bool f] w fun e w' => e = .returned (.bool true) ∧ Below w.heap.size w w' := by
  have hd : decide (4096 < (n : Int)) = false := by simp; omega
  have hd2 : decide (70000 < (m : Int)) = true := by simp; omega
  go_enter Ybaf.func3, Ybaf.ntmps3
  go_wp2
  go_ret
  exact ⟨rfl, Below.refl _ _⟩

end Go.Proofs.YbulkaeosFmt
