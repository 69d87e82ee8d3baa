/-
  '(*encoder).size' (function 9), over whatever order whose 'uint' is known.
-/
import Derived.Test.YbulkaepuFmtUint
namespace Go.Proofs.YbulkaepuFmt
open Go.RowKit

/-- WHAT 'uint' DOES AT THIS ORDER AND LAYOUT: it appends the bytes bs for the number N; what was known of the order's log (Pre) turns into Post. -/
def UintSays (B E : Nat) (ord : Value) (bl : Bool) (SZ : Int) (Pre Post : World → Prop) (N : Nat) (bs : List Int) : Prop :=
  ∀ n xs w, n ≤ 10000 → Enc B E w ord bl SZ n xs → Pre w → Calls Ybaf.prog 12 #[.pointer (some ⟨E, 0, none⟩), .int .i64 SZ, .int .u64 N] w fun e w' => e = .returned (.tuple #[]) ∧ Enc B E w' ord bl SZ (n + bs.length) (xs ++ bs) ∧ Post w' ∧ Below B w w' ∧ K38 w w'

/-- What is known of the order's log stays known while the encoder's own row and cell turn. -/
def Stays (E : Nat) (Pre : World → Prop) : Prop := ∀ w w', w.heap.size ≤ w'.heap.size → Kept E w w' → Pre w → Pre w'

theorem Enc.lt {B E : Nat} {w : World} {ord : Value} {bl : Bool} {SZ : Int} {n : Nat} {xs : List Int} (h : Enc B E w ord bl SZ n xs) : B ≤ E ∧ E < w.heap.size := by
  obtain ⟨ao, cap, hh, _, hb⟩ := h
  exact ⟨hb, (Array.getElem?_eq_some_iff.1 hh).1⟩

theorem Enc.alloc {B E : Nat} {w : World} {ord : Value} {bl : Bool} {SZ : Int} {n : Nat} {xs : List Int} (h : Enc B E w ord bl SZ n xs) (o : Obj) : Enc B E (w.alloc o) ord bl SZ n xs := by
  have := h.lt
  obtain ⟨ao, cap, hh, hown, hb⟩ := h
  exact ⟨ao, cap, by rw [Below.heap_alloc _ _ _ this.2]; exact hh, hown.alloc o, hb⟩

theorem Kept.trans {E : Nat} {a b c : World} (h : Kept E a b) (hs : a.heap.size ≤ b.heap.size) (k : Kept E b c) : Kept E a c := fun i hi hE hx => by
  have e := h i hi hE hx
  rw [k i (Nat.lt_of_lt_of_le hi hs) hE (fun c => by rw [e]; exact hx c), e]
theorem Kept.alloc (E : Nat) (w : World) (o : Obj) : Kept E w (w.alloc o) := fun _ hk _ _ => Below.heap_alloc _ _ _ hk

/-- WHAT AN APPEND OF THE BYTES ns LEAVES, once stored. -/
theorem enc_append {w w1 : World} {B E n cap m : Nat} {ord : Value} {bl : Bool} {SZ : Int} {ao ao' : Option Addr} {cap' : Nat} {xs ns : List Int}
    (hh : w.heap[E]? = some (.cells #[.slice ao n cap, ord, .bool bl, .int .i64 0, .int .i64 SZ, .int .i64 0, .int .i64 0, .int .i64 0, .nilIface] 35 (0, 0))) (hown : w.ownsRow B 5 1 (.slice ao n cap) n (xs.map (Value.int .u8))) (hBE : B ≤ E)
    (hown1 : w1.ownsRow B 5 1 (.slice ao' (n + m) cap') (n + m) (xs.map (Value.int .u8) ++ ns.map (Value.int .u8))) (hgrow : w.grownBy w1 (Value.slice ao n cap).ownBlock) :
    (w1.cell? ⟨E, 0, none⟩ = some (.slice ao n cap) ∧ w1.frozen? ⟨E, 0, none⟩ = false ∧ E < w1.heap.size) ∧
    Enc B E (w1.setCell ⟨E, 0, none⟩ (.slice ao' (n + m) cap')) ord bl SZ (n + m) (xs ++ ns) ∧ Below B w (w1.setCell ⟨E, 0, none⟩ (.slice ao' (n + m) cap')) ∧ Kept E w (w1.setCell ⟨E, 0, none⟩ (.slice ao' (n + m) cap')) ∧
    w.heap.size ≤ (w1.setCell ⟨E, 0, none⟩ (.slice ao' (n + m) cap')).heap.size := by
  have hs : Same5 w w1 := Same5.append hown hgrow
  have hh1 := hs.at hh (by decide)
  obtain ⟨c0, _, _, _, f0, hl⟩ := enc_cells hh1
  have hlt : E < w.heap.size := (Array.getElem?_eq_some_iff.1 hh).1
  exact ⟨⟨c0, f0, hl⟩, enc_store (by rw [List.map_append]; exact hown1) hBE hh1, ((Below.refl B w).grown hgrow (by omega) (fun k hk => (hown.lt k hk).1)).setCell hBE _, hs.set 0 _, by simpa [World.setCell] using hs.1⟩

set_option maxHeartbeats 400000 in
set_option maxRecDepth 100000 in
theorem size_short (B E : Nat) (ord : Value) (bl : Bool) (SZ : Int) (fv : Value) (n : Nat) (xs : List Int) (N : Nat) (w : World) (hn : n ≤ 10000) (hN : N < 255) (hE : Enc B E w ord bl SZ n xs) :
    Calls Ybaf.prog 9 #[.pointer (some ⟨E, 0, none⟩), fv, .int .u64 N, .bool false] w fun e w' => e = .returned (.tuple #[]) ∧ Enc B E w' ord bl SZ (n + 1) (xs ++ [(N : Int)]) ∧ Below B w w' ∧ Kept E w w' ∧ w.heap.size ≤ w'.heap.size := by
  have hlt := hE.lt
  have HA : Hid (∀ o, Enc B E (w.alloc o) ord bl SZ n xs) := fun o => hE.alloc o
  obtain ⟨ao, cap, hh, hown, hBE⟩ := hE
  obtain ⟨c0, c1, c4, c8, f0, hl⟩ := enc_cells hh
  obtain ⟨i0, hi, hz0, hz1, hz2⟩ := info_parts Ybaf.info5
  have HH : Hid (∀ o, (w.alloc o).heap[E]? = some (.cells #[.slice ao n cap, ord, .bool bl, .int .i64 0, .int .i64 SZ, .int .i64 0, .int .i64 0, .int .i64 0, .nilIface] 35 (0, 0))) := fun o => by rw [Below.heap_alloc _ _ _ hl]; exact hh
  clear hh c1 c4 c8
  go_enter Ybaf.func9, Ybaf.ntmps9
  go_wp2_with (at_builtin; refine wpList_append_bytes rfl _ _ 22 rfl B 5 i0 (.int .u8 0) 1 Ybaf.underlying22 hi hz0 hz1 hz2 rfl _ _ _ rfl (hown.alloc _) (some ⟨w.heap.size, 0, none⟩) 1 1 [(N : Int)] rfl (fun h => by cases h) (bytes_one w _) (by unfold maxLen; omega) (by omega) ?c5 ?_)
  case c5 => simp; omega
  intro v' w1 hown1 hgrow1
  obtain ⟨ao', cap', hv⟩ := own_form hown1
  rw [hv] at hown1 ⊢
  clear hv
  obtain ⟨⟨d0, g0, hl1⟩, R1, R2, R3, R4⟩ := enc_append (m := 1) (ns := [(N : Int)]) (HH.out _) (hown.alloc _) hBE hown1 hgrow1
  have HR1 : Hid (Enc B E (w1.setCell ⟨E, 0, none⟩ (.slice ao' (n + 1) cap')) ord bl SZ (n + 1) (xs ++ [(N : Int)])) := R1
  have HR2 : Hid (Below B w (w1.setCell ⟨E, 0, none⟩ (.slice ao' (n + 1) cap'))) := ((Below.refl B w).alloc (by omega) _).trans R2
  have HR3 : Hid (Kept E w (w1.setCell ⟨E, 0, none⟩ (.slice ao' (n + 1) cap'))) := (Kept.alloc E w _).trans (by simp) R3
  have HR4 : Hid (w.heap.size ≤ (w1.setCell ⟨E, 0, none⟩ (.slice ao' (n + 1) cap')).heap.size) := by simp at R4; unfold Hid; simp; omega
  clear R1 R2 R3 R4 hown1 hgrow1 hown c0 f0 HH HA
  go_wp2
  go_returns
  exact ⟨rfl, HR1.out, HR2.out, HR3.out, HR4.out⟩

set_option maxHeartbeats 400000 in
set_option maxRecDepth 100000 in
theorem size_long (B E : Nat) (ord : Value) (bl : Bool) (SZ : Int) (Pre Post : World → Prop) (bs : List Int) (fv : Value) (n : Nat) (xs : List Int) (N : Nat) (sT : Bool) (w : World) (hn : n ≤ 9000) (hN : N ≤ 2000) (hlong : (decide ((N : Int) < 255) && !sT) = false)
    (hU : UintSays B E ord bl SZ Pre Post N bs) (hPre : Stays E Pre) (hE : Enc B E w ord bl SZ n xs) (hP : Pre w) :
    Calls Ybaf.prog 9 #[.pointer (some ⟨E, 0, none⟩), fv, .int .u64 N, .bool sT] w fun e w' => e = .returned (.tuple #[]) ∧ Enc B E w' ord bl SZ (n + 1 + bs.length) (xs ++ 255 :: bs) ∧ Post w' ∧ Below B w w' ∧ K38 w w' := by
  have hlt := hE.lt
  have HA : Hid (∀ o, Enc B E (w.alloc o) ord bl SZ n xs) := fun o => hE.alloc o
  have HP : Hid (Pre w) := hP
  have HU : Hid (UintSays B E ord bl SZ Pre Post N bs) := hU
  obtain ⟨ao, cap, hh, hown, hBE⟩ := hE
  obtain ⟨c0, c1, c4, c8, f0, hl⟩ := enc_cells hh
  obtain ⟨i0, hi, hz0, hz1, hz2⟩ := info_parts Ybaf.info5
  have HH : Hid (∀ o, (w.alloc o).heap[E]? = some (.cells #[.slice ao n cap, ord, .bool bl, .int .i64 0, .int .i64 SZ, .int .i64 0, .int .i64 0, .int .i64 0, .nilIface] 35 (0, 0))) := fun o => by rw [Below.heap_alloc _ _ _ hl]; exact hh
  have hbig : decide (4294967295 < (N : Int)) = false := by simp; omega
  have HK : Hid (w.heap[E]? = some (.cells #[.slice ao n cap, ord, .bool bl, .int .i64 0, .int .i64 SZ, .int .i64 0, .int .i64 0, .int .i64 0, .nilIface] 35 (0, 0))) := hh
  clear hh c1 c8 hP hU
  have ways : ∀ b1 b2 b3 : Bool, decide ((N : Int) < 255) = b1 → sT = b2 → (SZ == 4) = b3 → (b1 && !b2) = false →
      Calls Ybaf.prog 9 #[.pointer (some ⟨E, 0, none⟩), fv, .int .u64 N, .bool b2] w fun e w' => e = .returned (.tuple #[]) ∧ Enc B E w' ord bl SZ (n + 1 + bs.length) (xs ++ 255 :: bs) ∧ Post w' ∧ Below B w w' ∧ K38 w w' := by
    intro b1 b2 b3 h1 _ h3 h4
    clear hlong
    cases b1 <;> cases b2 <;> cases b3 <;> first | (exact absurd h4 (by decide)) | skip
    all_goals
      clear h4
      go_enter Ybaf.func9, Ybaf.ntmps9
      go_wp2_with (at_builtin; refine wpList_append_bytes rfl _ _ 22 rfl B 5 i0 (.int .u8 0) 1 Ybaf.underlying22 hi hz0 hz1 hz2 rfl _ _ _ rfl (hown.alloc _) (some ⟨w.heap.size, 0, none⟩) 1 1 [255] rfl (fun h => by cases h) (bytes_one w _) (by unfold maxLen; omega) (by omega) (by simp; omega) ?_)
      intro v' w1 hown1 hgrow1
      obtain ⟨ao', cap', hv⟩ := own_form hown1
      rw [hv] at hown1 ⊢
      clear hv
      obtain ⟨⟨d0, g0, hl1⟩, R1, R2, R3, R4⟩ := enc_append (m := 1) (ns := [255]) (HH.out _) (hown.alloc _) hBE hown1 hgrow1
      have HR1 : Hid (Enc B E (w1.setCell ⟨E, 0, none⟩ (.slice ao' (n + 1) cap')) ord bl SZ (n + 1) (xs ++ [255])) := R1
      have HR2 : Hid (Below B w (w1.setCell ⟨E, 0, none⟩ (.slice ao' (n + 1) cap'))) := ((Below.refl B w).alloc (by omega) _).trans R2
      have HR3 : Hid (Pre (w1.setCell ⟨E, 0, none⟩ (.slice ao' (n + 1) cap'))) := hPre w _ (by simp at R4; simp; omega) ((Kept.alloc E w _).trans (by simp) R3) HP.out
      have HR5 : Hid (K38 w (w1.setCell ⟨E, 0, none⟩ (.slice ao' (n + 1) cap'))) := K38.of_kept ((Kept.alloc E w _).trans (by simp) R3) HK.out (by decide)
      have e4 : (w1.setCell ⟨E, 0, none⟩ (.slice ao' (n + 1) cap')).cell? ⟨E, 4, none⟩ = some (.int .i64 SZ) := by
        obtain ⟨a2, k2, hh2, _, _⟩ := R1
        exact (enc_cells hh2).2.2.1
      clear R1 R2 R3 R4 hown1 hgrow1 c0 c4 f0
      go_wp2_with fail
      refine (HU.out (n + 1) (xs ++ [255]) _ (by omega) HR1.out HR3.out).mono ?_
      rintro e w2 ⟨rfl, q1, q2, q3, q4⟩
      rw [List.append_assoc] at q1
      go_wp2
      go_end0
      exact ⟨rfl, q1, q2, HR2.out.trans q3, HR5.out.trans q4⟩
  exact ways _ _ _ rfl rfl rfl hlong

end Go.Proofs.YbulkaepuFmt
