/-
  The walk over 'LawS1528BPartition' (function 4).
-/
import Derived.Test.YbulkaepuPos
namespace Go.Proofs.Ybulkaepu
open Go.RowKit

/-- The first k leaders, as values. -/
def led (g : Nat → Nat) (f k : Nat) : List Value := (List.range k).map fun j => .int .i64 (pos g f j)

theorem led_succ (g : Nat → Nat) (f k : Nat) : led g f (k + 1) = led g f k ++ [.int .i64 (pos g f k)] := by simp [led, List.range_succ]
theorem led_length (g : Nat → Nat) (f k : Nat) : (led g f k).length = k := by simp [led]
theorem led_at (g : Nat → Nat) (f k j : Nat) (h : j < k) : (led g f k)[j]? = some (.int .i64 (pos g f j)) := by simp [led, h]

/-- Where the first j blocks end, k blocks in all: where the next one begins, or the code's end. -/
def endp (g : Nat → Nat) (f t k j : Nat) : Nat := if j < k then pos g f j else pos g f k + t

theorem cells3 (w : World) (o1 o2 : Obj) (c : Array Value) (t : TypeId) (i : Nat) : (((w.alloc o1).alloc o2).alloc (.cells c t)).cell? ⟨w.heap.size + 1 + 1, i, none⟩ = c[i]? := by
  rw [World.cell?_alloc_at _ _ _ _ (by simp)]
theorem cells2 (w : World) (o1 o3 : Obj) (c : Array Value) (t : TypeId) (i : Nat) : (((w.alloc o1).alloc (.cells c t)).alloc o3).cell? ⟨w.heap.size + 1, i, none⟩ = c[i]? := by
  rw [World.cell?_alloc_past _ _ _ (by simp), World.cell?_alloc_at _ _ _ _ (by simp)]
theorem cells0 (w : World) (o1 o2 o3 : Obj) (b i : Nat) (hb : b < w.heap.size) : (((w.alloc o1).alloc o2).alloc o3).cell? ⟨b, i, none⟩ = w.cell? ⟨b, i, none⟩ := by
  rw [World.cell?_alloc_past _ _ _ (by simp; omega), World.cell?_alloc_past _ _ _ (by simp; omega), World.cell?_alloc_past _ _ _ hb]

set_option maxHeartbeats 800000 in
theorem partition_some (f t : Nat) (b off n cap : Nat) (g : Nat → Nat) (w : World) (hf : f ≤ 255) (ht : t ≤ 255) (hn0 : 0 < n) (hn : n ≤ 1024) (hb : b < w.heap.size)
    (hG : ∀ j, j < n → w.cell? ⟨b, off + j, none⟩ = some (.int .u8 (g j))) (hGb : ∀ j, j < n → g j ≤ 255) :
    Calls Yba.prog 4 #[.int .u8 f, .slice (some ⟨b, off, none⟩) n cap, .int .u8 t] w fun e w' => e = .returned (.bool true) ∧ Below w.heap.size w w' := by
  obtain ⟨i0, hi, hz0, hz1, hz2⟩ := info_parts Yba.info3
  have hd : decide (1024 < (n : Int)) = false := by simp; omega
  have hd0 : ((n : Int) == 0) = false := by simp; omega
  have hph := pos_hi g f n
  have hmk := run_make_row' (P := Yba.prog) 24 58 (.int .u32 0) 4 Yba.underlying24 Yba.info58 rfl .i64 .i64 (pos g f n + t) (by omega) (by omega)
  rw [show ((pos g f n + t : Nat) : Int) = (pos g f n : Int) + (t : Int) from by omega] at hmk
  go_enter Yba.func4, Yba.ntmps4
  go_wp2_with (at_make; refine wpList_make_own _ rfl _ _ 22 rfl w.heap.size 3 i0 (.int .i64 0) 1 Yba.underlying22 hi hz0 hz1 _ _ _ n rfl rfl (by omega) ?b2 ?b3 (Nat.le_refl _) ?_)
  case b2 => rw [hz2]; omega
  case b3 => unfold maxLen; omega
  intro w1 hown1 hgrow1
  have hB1 : Below w.heap.size w w1 := (Below.refl _ _).grown hgrow1 (Nat.le_refl _) (fun k hk => by cases hk)
  clear hgrow1
  go_wp2
  go_loopw [7, 8, 27] (fun v p i wr => ∃ k : Nat, k ≤ n ∧ i = .int .i64 k ∧ p = .int .i64 (pos g f k) ∧ v = .slice (some ⟨w.heap.size, 0, none⟩) k n ∧ wr.ownsRow w.heap.size 3 1 (.slice (some ⟨w.heap.size, 0, none⟩) k n) k (led g f k) ∧ Below w.heap.size w wr) (fun _ _ i _ => n - (intOf i).toNat)
  case atStart => exact ⟨0, Nat.zero_le _, rfl, rfl, rfl, hown1, hB1⟩
  case round =>
    clear hown1 hB1
    obtain ⟨k, hk, rfl, rfl, rfl, hown, hbel⟩ := hrel
    by_cases hlt : k < n
    · have c0 := hG k hlt
      have hgk := hGb k hlt
      rw [← hbel.cell (p := ⟨b, off + k, none⟩) hb] at c0
      have hpk := pos_hi g f k
      have hsz := hbel.size
      clear hG hGb
      go_wp2_with (at_builtin; refine wpList_append_fits _ rfl _ _ 22 rfl w.heap.size 3 i0 1 Yba.underlying22 hi hz1 w.heap.size k n _ rfl (hown.alloc _) ⟨wr.heap.size, 0, none⟩ 1 1 [.int .i64 (pos g f k)] rfl rfl (cell_one_new _ _ _) ?c2 (by omega) ?_)
      case c2 => intro u hu; simp at hu; subst hu; rfl
      intro w2 hown2 hgrow2
      have R : w2.ownsRow w.heap.size 3 1 (.slice (some ⟨w.heap.size, 0, none⟩) (k + 1) n) (k + 1) (led g f (k + 1)) := by rw [led_succ]; exact hown2
      have R2 : Below w.heap.size w w2 := (hbel.alloc hsz _).grown hgrow2 (by simp; omega) (fun x hx => by simp at hx; omega)
      clear hown hown2 hgrow2 hbel c0
      go_wp2
      go_roundw
      case rel => exact ⟨k + 1, by omega, by go_num, by rw [pos_succ]; go_num, rfl, R, R2⟩
      case measure => simp [intOf]; omega
    · obtain rfl : k = n := by omega
      clear hG hGb
      have HL : Hid (∀ j, j < k → wr.cell? ⟨w.heap.size, j, none⟩ = some (.int .i64 (pos g f j))) := fun j hj => by rw [hown.cellAt j (by omega), led_at g f k j hj]
      have hsz : w.heap.size < wr.heap.size := (hown.lt _ rfl).2
      have hsz1 : w.heap.size < wr.heap.size + 1 := by omega
      have hsz2 : w.heap.size < wr.heap.size + 1 + 1 := by omega
      clear hown
      go_wp2_with fail
      go_loop [14, 15] (fun s j => ∃ m : Nat, m ≤ k ∧ j = .int .i64 m ∧ s = .int .i64 ((endp g f t k m : Int) - (f : Int))) (fun _ j => k - (intOf j).toNat)
      case atStart => exact ⟨0, Nat.zero_le _, rfl, by simp [endp, hn0, pos]⟩
      case round =>
        obtain ⟨m, hm, rfl, rfl⟩ := hrel
        by_cases hmk' : m < k
        · have c1 := HL.out m hmk'
          have p0 := pos_mono g f (show 0 ≤ m by omega)
          have p1 : pos g f m < pos g f (m + 1) := by rw [pos_succ]; omega
          have p2 := pos_mono g f (show m + 1 ≤ k by omega)
          have p3 : pos g f 0 = f := rfl
          rw [p3] at p0
          clear p3
          have e0 : endp g f t k m = pos g f m := by simp [endp, hmk']
          rw [e0]
          clear e0
          by_cases hm1 : m + 1 < k
          · have c2 := HL.out (m + 1) hm1
            have HEP : Hid (endp g f t k (m + 1) = pos g f (m + 1)) := by unfold Hid; simp [endp, hm1]
            go_wp2_with fail
            refine (end_next (wr.heap.size + 1 + 1) w.heap.size k k m (pos g f (m + 1)) _ (by omega) hm1 (by rw [cells3]; rfl) (by rw [cells0 _ _ _ _ _ _ hsz]; exact c2)).mono ?_
            rintro e w4 ⟨rfl, rfl⟩
            go_wp2
            go_round
            case rel => exact ⟨m + 1, by omega, by go_num, by rw [HEP.out]; go_num⟩
            case measure => simp [intOf]; omega
          · have HEP : Hid (endp g f t k (m + 1) = pos g f k + t) := by unfold Hid; simp [endp, hm1]
            go_wp2_with fail
            refine (end_last (wr.heap.size + 1 + 1) (wr.heap.size + 1) k k (pos g f k + t) _ _ _ m _ (by omega) (by omega) (by omega) (by rw [cells3]; rfl) (by rw [cells3]; rfl) (by rw [cells2]; rfl)).mono ?_
            rintro e w4 ⟨rfl, rfl⟩
            go_wp2
            go_round
            case rel => exact ⟨m + 1, by omega, by go_num, by rw [HEP.out]; go_num⟩
            case measure => simp [intOf]; omega
        · obtain rfl : m = k := by omega
          have c0 := HL.out 0 hn0
          have e0 : endp g f t m m = pos g f m + t := by simp [endp]
          have p0 : pos g f 0 = f := rfl
          have p1 := pos_mono g f (show 0 ≤ m by omega)
          rw [p0] at p1 c0
          rw [e0]
          clear e0 p0
          have hbq : (((pos g f m + t : Nat) : Int) - (f : Int) == (pos g f m : Int) + (t : Int) - (f : Int)) = true := by simp
          go_wp2
          go_ret
          refine ⟨rfl, ?_⟩
          go_grown

/-- .. over no gaps. -/
theorem partition_none (f t : Nat) (a1 : Option Addr) (cap : Nat) (w : World) (hf : f ≤ 255) (ht : t ≤ 255) :
    Calls Yba.prog 4 #[.int .u8 f, .slice a1 0 cap, .int .u8 t] w fun e w' => e = .returned (.bool true) ∧ Below w.heap.size w w' := by
  obtain ⟨i0, hi, hz0, hz1, hz2⟩ := info_parts Yba.info3
  have hmk := run_make_row' (P := Yba.prog) 24 58 (.int .u32 0) 4 Yba.underlying24 Yba.info58 rfl .i64 .i64 (f + t) (by omega) (by omega)
  rw [show ((f + t : Nat) : Int) = (f : Int) + (t : Int) from by omega] at hmk
  go_enter Yba.func4, Yba.ntmps4
  go_wp2_with (at_make; refine wpList_make_own _ rfl _ _ 22 rfl w.heap.size 3 i0 (.int .i64 0) 1 Yba.underlying22 hi hz0 hz1 _ _ _ 0 rfl rfl rfl (by omega) (by unfold maxLen; omega) (Nat.le_refl _) ?_)
  intro w1 hown1 hgrow1
  have hB1 : Below w.heap.size w w1 := (Below.refl _ _).grown hgrow1 (Nat.le_refl _) (fun k hk => by cases hk)
  have hsz := hB1.size
  clear hgrow1 hown1
  go_wp2
  go_rounds 1
  go_ret
  refine ⟨rfl, ?_⟩
  go_grown

/-- .. over more gaps than the law looks at. -/
theorem partition_long (f t : Int) (a1 : Option Addr) (n cap : Nat) (w : World) (hn : 1024 < n) :
    Calls Yba.prog 4 #[.int .u8 f, .slice a1 n cap, .int .u8 t] w fun e w' => e = .returned (.bool true) ∧ Below w.heap.size w w' := by
  go_enter Yba.func4, Yba.ntmps4
  go_wp2
  go_ret
  exact ⟨rfl, Below.refl _ _⟩

end Go.Proofs.Ybulkaepu
