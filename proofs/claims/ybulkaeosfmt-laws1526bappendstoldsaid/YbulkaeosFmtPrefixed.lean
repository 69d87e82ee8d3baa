/-
  The encoder: '(*encoder).prefixed' (function 6), with 'fail' (8) and fmt.Errorf (9, 11) on its way.
-/
import Derived.Test.YbulkaeosFmtPut
namespace Go.Proofs.YbulkaeosFmt
open Go.RowKit Go.Extern.Stop Go.Stop Go.Extern

theorem Bytes.belowB {B : Nat} {w w' : World} {p : Option Addr} {n : Nat} {xs : List Int} (h : Bytes w p n xs) (hb : Below B w w') (hp : 0 < n → ∀ a, p = some a → a.block < B) : Bytes w' p n xs :=
  ⟨h.1, fun hn => by
    obtain ⟨b, o, e, hcell⟩ := h.2 hn
    refine ⟨b, o, e, fun i hi => ?_⟩
    rw [hb.cell (p := ⟨b, o + i, none⟩) (hp hn ⟨b, o, none⟩ e)]
    exact hcell i hi⟩

theorem bytes_one (w : World) (q : Int) : Bytes (w.alloc (.cells #[.int .u8 q] 5)) (some ⟨w.heap.size, 0, none⟩) 1 [q] :=
  ⟨rfl, fun _ => ⟨w.heap.size, 0, rfl, fun i hi => by
    obtain rfl : i = 0 := by omega
    rw [World.cell?_alloc_at _ _ _ _ rfl]
    rfl⟩⟩

theorem Enc.lt {B E : Nat} {w : World} {err : Value} {n : Nat} {xs : List Int} (h : Enc B E w err n xs) : B ≤ E ∧ E < w.heap.size := by
  obtain ⟨ao, cap, hh, _, hb⟩ := h
  exact ⟨hb, (two_cells hh).2.2.2.2⟩

theorem Enc.alloc {B E : Nat} {w : World} {err : Value} {n : Nat} {xs : List Int} (h : Enc B E w err n xs) (o : Obj) : Enc B E (w.alloc o) err n xs := by
  obtain ⟨ao, cap, hh, hown, hb⟩ := h
  exact ⟨ao, cap, by rw [Below.heap_alloc _ _ _ (two_cells hh).2.2.2.2]; exact hh, hown.alloc o, hb⟩

set_option maxHeartbeats 400000 in
theorem prefixed_one (B E : Nat) (n : Nat) (xs : List Int) (p : Option Addr) (m c : Nat) (ns : List Int) (s : ByteArray) (w : World) (hE : Enc B E w .nilIface n xs) (hnil : p = none → m = 0 ∧ c = 0) (hsrc : Bytes w p m ns)
    (hp : 0 < m → ∀ a, p = some a → a.block < B) (hn : n ≤ 5000) (hm : m ≤ 255) :
    Calls Ybaf.prog 6 #[.pointer (some ⟨E, 0, none⟩), .int .i64 1, .slice p m c, .string s] w fun e w' => e = .returned (.tuple #[]) ∧ Enc B E w' .nilIface (n + 1 + m) (xs ++ [(m : Int)] ++ ns) ∧ Below B w w' := by
  go_enter Ybaf.func6, Ybaf.ntmps6
  go_wp2_with fail
  refine (put_ok B E n xs _ 1 1 [(m : Int)] _ (hE.alloc _) (fun h => by cases h) (bytes_one w _) (by omega)).mono ?_
  rintro e w1 ⟨rfl, hE1, hb1⟩
  have hB1 : Below B w w1 := ((Below.refl B w).alloc (by have := hE.lt; omega) _).trans hb1
  have HS : Hid (Bytes w1 p m ns) := hsrc.belowB hB1 hp
  have HE : Hid (Enc B E w1 .nilIface (n + 1) (xs ++ [(m : Int)])) := hE1
  clear hE hE1 hb1 hsrc hp
  go_wp2_with fail
  refine (put_ok B E _ _ p m c ns _ HE.out hnil HS.out (by omega)).mono ?_
  rintro e w2 ⟨rfl, hE2, hb2⟩
  go_wp2
  go_end0
  exact ⟨rfl, hE2, hB1.trans hb2⟩

set_option maxHeartbeats 400000 in
theorem prefixed_two (B E : Nat) (n : Nat) (xs : List Int) (p : Option Addr) (m c : Nat) (ns : List Int) (s : ByteArray) (w : World) (hE : Enc B E w .nilIface n xs) (hnil : p = none → m = 0 ∧ c = 0) (hsrc : Bytes w p m ns)
    (hp : 0 < m → ∀ a, p = some a → a.block < B) (hn : n ≤ 5000) (hm : m ≤ 65535) :
    Calls Ybaf.prog 6 #[.pointer (some ⟨E, 0, none⟩), .int .i64 2, .slice p m c, .string s] w fun e w' => e = .returned (.tuple #[]) ∧ Enc B E w' .nilIface (n + 2 + m) (xs ++ [(m : Int) / 256, (m : Int) % 256] ++ ns) ∧ Below B w w' := by
  go_enter Ybaf.func6, Ybaf.ntmps6
  go_wp2_with fail
  refine (put_ok B E n xs _ 1 1 [(m : Int) / 256] _ (hE.alloc _) (fun h => by cases h) (bytes_one w _) (by omega)).mono ?_
  rintro e w1 ⟨rfl, hE1, hb1⟩
  have hB1 : Below B w w1 := ((Below.refl B w).alloc (by have := hE.lt; omega) _).trans hb1
  have HS : Hid (Bytes w1 p m ns) := hsrc.belowB hB1 hp
  have HE : Hid (Enc B E w1 .nilIface (n + 1) (xs ++ [(m : Int) / 256])) := hE1
  clear hE hE1 hb1 hsrc
  go_wp2_with fail
  refine (put_ok B E _ _ _ 1 1 [(m : Int) % 256] _ (HE.out.alloc _) (fun h => by cases h) (bytes_one w1 _) (by omega)).mono ?_
  rintro e w2 ⟨rfl, hE2, hb2⟩
  have hB2 : Below B w1 w2 := ((Below.refl B w1).alloc (by have := HE.out.lt; omega) _).trans hb2
  have HS2 : Hid (Bytes w2 p m ns) := HS.out.belowB hB2 hp
  have HE2 : Hid (Enc B E w2 .nilIface (n + 2) (xs ++ [(m : Int) / 256, (m : Int) % 256])) := by
    rw [List.append_assoc] at hE2; exact hE2
  clear HE hE2 hb2 HS hp
  go_wp2_with fail
  refine (put_ok B E _ _ p m c ns _ HE2.out hnil HS2.out (by omega)).mono ?_
  rintro e w3 ⟨rfl, hE3, hb3⟩
  go_wp2
  go_end0
  exact ⟨rfl, hE3, (hB1.trans hB2).trans hb3⟩

end Go.Proofs.YbulkaeosFmt
