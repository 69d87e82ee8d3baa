/-
  '(*encoder).string' (function 5), over whatever order whose 'size' is known.
-/
import Derived.Test.YbulkaepuFmtSize
import Derived.Deep.RegionLaw
namespace Go.Proofs.YbulkaepuFmt
open Go.RowKit

/-- WHAT 'size' DOES at this order, layout and number: it appends the bytes bs. -/
def SizeSays (B E : Nat) (ord : Value) (bl : Bool) (SZ : Int) (Pre Post : World → Prop) (fv : Value) (N : Nat) (sT : Bool) (bs : List Int) : Prop :=
  ∀ n xs w, n ≤ 9000 → Enc B E w ord bl SZ n xs → Pre w → Calls Ybaf.prog 9 #[.pointer (some ⟨E, 0, none⟩), fv, .int .u64 N, .bool sT] w fun e w' => e = .returned (.tuple #[]) ∧ Enc B E w' ord bl SZ (n + bs.length) (xs ++ bs) ∧ Post w' ∧ Below B w w' ∧ K38 w w'

theorem size_says_short (B E : Nat) (ord : Value) (bl : Bool) (SZ : Int) (Pre : World → Prop) (fv : Value) (N : Nat) (hN : N < 255) (hPre : Stays E Pre) : SizeSays B E ord bl SZ Pre Pre fv N false [(N : Int)] :=
  fun n xs w hn hE hP => (size_short B E ord bl SZ fv n xs N w (by omega) hN hE).mono fun _ w' ⟨h1, h2, h3, h4, h5⟩ => ⟨h1, h2, hPre w w' h5 h4 hP, h3, by obtain ⟨_, _, hh, _⟩ := hE; exact K38.of_kept h4 hh (by decide)⟩

theorem size_says_long (B E : Nat) (ord : Value) (bl : Bool) (SZ : Int) (Pre Post : World → Prop) (fv : Value) (N : Nat) (sT : Bool) (bs : List Int) (hN : N ≤ 2000) (hlong : (decide ((N : Int) < 255) && !sT) = false) (hU : UintSays B E ord bl SZ Pre Post N bs) (hPre : Stays E Pre) :
    SizeSays B E ord bl SZ Pre Post fv N sT (255 :: bs) :=
  fun n xs w hn hE hP => (size_long B E ord bl SZ Pre Post bs fv n xs N sT w hn hN hlong hU hPre hE hP).mono fun _ w' ⟨h1, h2, h3, h4, h5⟩ => ⟨h1, by
    have e : n + (255 :: bs).length = n + 1 + bs.length := by simp; omega
    rw [e]; exact h2, h3, h4, h5⟩

set_option maxHeartbeats 400000 in
theorem string_absent (B E : Nat) (ord : Value) (bl : Bool) (SZ : Int) (Pre Post : World → Prop) (fv : Value) (sT : Bool) (bs : List Int) (s : ByteArray) (n : Nat) (xs : List Int) (w : World) (hn : n ≤ 9000)
    (hS : SizeSays B E ord bl SZ Pre Post fv 0 sT bs) (hPre : Stays E Pre) (hE : Enc B E w ord bl SZ n xs) (hP : Pre w) :
    Calls Ybaf.prog 5 #[.pointer (some ⟨E, 0, none⟩), fv, .agg #[.string s, .bool false, .bool sT]] w fun e w' => e = .returned (.tuple #[]) ∧ Enc B E w' ord bl SZ (n + bs.length) (xs ++ bs) ∧ Post w' ∧ Below B w w' := by
  have HS : Hid (SizeSays B E ord bl SZ Pre Post fv 0 sT bs) := hS
  have HE : Hid (∀ o, Enc B E (w.alloc o) ord bl SZ n xs) := fun o => hE.alloc o
  have HP : Hid (∀ o, Pre (w.alloc o)) := fun o => hPre w _ (by simp) (Kept.alloc E w o) hP
  have hlt := hE.lt
  clear hS hE hP
  go_enter Ybaf.func5, Ybaf.ntmps5
  go_wp2_with fail
  refine (HS.out n xs _ hn (HE.out _) (HP.out _)).mono ?_
  rintro e w2 ⟨rfl, q1, q2, q3, _⟩
  go_wp2
  go_returns
  exact ⟨rfl, q1, q2, ((Below.refl B w).alloc (by omega) _).trans q3⟩

set_option maxHeartbeats 400000 in
theorem string_present (B E : Nat) (ord : Value) (bl : Bool) (SZ : Int) (Pre Post : World → Prop) (fv : Value) (sT : Bool) (bs : List Int) (s : ByteArray) (n : Nat) (xs : List Int) (w : World) (hn : n ≤ 9000) (hb : bs.length ≤ 100) (hs : s.size ≤ 1024)
    (hS : SizeSays B E ord bl SZ Pre Post fv (s.size + 1) sT bs) (hPre : Stays E Pre) (hPost : Stays E Post) (hE : Enc B E w ord bl SZ n xs) (hP : Pre w) :
    Calls Ybaf.prog 5 #[.pointer (some ⟨E, 0, none⟩), fv, .agg #[.string s, .bool true, .bool sT]] w fun e w' => e = .returned (.tuple #[]) ∧ Enc B E w' ord bl SZ (n + bs.length + s.size) (xs ++ bs ++ strBytes s) ∧ Post w' ∧ Below B w w' := by
  have HS : Hid (SizeSays B E ord bl SZ Pre Post fv (s.size + 1) sT bs) := hS
  have HE : Hid (∀ o, Enc B E (w.alloc o) ord bl SZ n xs) := fun o => hE.alloc o
  have HP : Hid (∀ o, Pre (w.alloc o)) := fun o => hPre w _ (by simp) (Kept.alloc E w o) hP
  have hlt := hE.lt
  clear hS hE hP
  go_enter Ybaf.func5, Ybaf.ntmps5
  go_wp2_with fail
  rw [show ((s.size : Int) + 1) = ((s.size + 1 : Nat) : Int) from by omega]
  refine (HS.out n xs _ hn (HE.out _) (HP.out _)).mono ?_
  rintro e w2 ⟨rfl, q1, q2, q3, q4⟩
  have hB2 : Below B w w2 := ((Below.refl B w).alloc (by omega) _).trans q3
  have hbox : w2.heap[w.heap.size]? = some (.cells #[.string s, .bool true, .bool sT] 38 (0, 0)) := q4 _ _ (heap_alloc_new w _)
  have cb : w2.cell? ⟨w.heap.size, 0, none⟩ = some (.string s) := by simp [World.cell?, hbox]
  obtain ⟨ao, cap, hh, hown, hBE⟩ := q1
  obtain ⟨c0, _, _, _, f0, hl⟩ := enc_cells hh
  have HH : Hid (w2.heap[E]? = some (.cells #[.slice ao (n + bs.length) cap, ord, .bool bl, .int .i64 0, .int .i64 SZ, .int .i64 0, .int .i64 0, .int .i64 0, .nilIface] 35 (0, 0))) := hh
  obtain ⟨i0, hi, hz0, hz1, hz2⟩ := info_parts Ybaf.info5
  have HQ : Hid (Post w2) := q2
  clear hh q2 q3 q4 hbox
  go_wp2
  go_region_law ((refine step_append_text (by rfl) _ _ 22 9 (by rfl) B 5 i0 Ybaf.underlying22 Ybaf.underlying9 hi hz0 hz1 hz2 (.slice ao (n + bs.length) cap) (n + bs.length) ((xs ++ bs).map (Value.int .u8)) (by rfl) (by exact hown) s (by rfl) (by omega) (by simp; omega) ?_; intro ao' cap' w3 hown3 hgrow3; obtain ⟨⟨d0, g0, hl3⟩, R1, R2, R3, R4⟩ := enc_append (w := w2.drew) (m := s.size) (ns := strBytes s) (by exact HH.out) (by exact hown) hBE hown3 hgrow3))
  all_goals
    go_end0
    exact ⟨rfl, R1, hPost w2 _ (by exact R4) (by exact R3) HQ.out, hB2.trans ((Below.refl B w2).drew.trans R2)⟩

end Go.Proofs.YbulkaepuFmt
