/-
  Where the blocks of 'LawS1528BPartition' begin (no Go here), and the walks over '(*walk).end' (function 5).
-/
import Derived.Test.YbulkaepuRows
import Derived.WalkKit
import Derived.WalkSpells
import Derived.Handy
import Derived.Deep.OwnRows
namespace Go.Proofs.Ybulkaepu
open Go.RowKit

/-- Where block k begins: the first leader, then a gap of one to seven. -/
def pos (g : Nat → Nat) (f : Nat) : Nat → Nat
  | 0 => f
  | k + 1 => pos g f k + (g k % 7 + 1)

theorem pos_succ (g : Nat → Nat) (f k : Nat) : pos g f (k + 1) = pos g f k + (g k % 7 + 1) := rfl
theorem pos_hi (g : Nat → Nat) (f : Nat) : ∀ k, pos g f k ≤ f + 7 * k
  | 0 => by simp [pos]
  | k + 1 => by have := pos_hi g f k; rw [pos_succ]; omega
theorem pos_mono (g : Nat → Nat) (f : Nat) {j k : Nat} (h : j ≤ k) : pos g f j ≤ pos g f k := by
  induction k with
  | zero => obtain rfl : j = 0 := by omega
            exact Nat.le_refl _
  | succ k ih =>
    by_cases e : j = k + 1
    · subst e; exact Nat.le_refl _
    · have := ih (by omega)
      rw [pos_succ]; omega

theorem Yba.info58 : (Yba.prog.info? 58).map (fun i => (i.zero, i.size, i.bytes)) = some (some (.int .u32 0), 1, 4) := by kernel_rfl
theorem Yba.info3 : (Yba.prog.info? 3).map (fun i => (i.zero, i.size, i.bytes)) = some (some (.int .i64 0), 1, 8) := by kernel_rfl

/-- 'end(b)' where a block follows. -/
theorem end_next (K L N cap b : Nat) (x : Int) (w : World) (hN : N ≤ 100000) (hb : b + 1 < N) (h2 : w.cell? ⟨K, 2, none⟩ = some (.slice (some ⟨L, 0, none⟩) N cap)) (hx : w.cell? ⟨L, b + 1, none⟩ = some (.int .i64 x)) :
    Calls Yba.prog 5 #[.pointer (some ⟨K, 0, none⟩), .int .i64 b] w fun e w' => e = .returned (.int .i64 x) ∧ w' = w := by
  go_enter Yba.func5, Yba.ntmps5
  go_wp2
  go_ret
  exact ⟨rfl, rfl⟩

/-- .. and where none does. -/
theorem end_last (K F N cap M : Nat) (p c : Option Addr) (d : Nat) (b : Int) (w : World) (hb0 : -1 ≤ b) (hb : (N : Int) ≤ b + 1) (hb2 : b ≤ 100000) (h2 : w.cell? ⟨K, 2, none⟩ = some (.slice p N cap)) (h0 : w.cell? ⟨K, 0, none⟩ = some (.pointer (some ⟨F, 0, none⟩)))
    (hc : w.cell? ⟨F, 9, none⟩ = some (.slice c M d)) :
    Calls Yba.prog 5 #[.pointer (some ⟨K, 0, none⟩), .int .i64 b] w fun e w' => e = .returned (.int .i64 M) ∧ w' = w := by
  go_enter Yba.func5, Yba.ntmps5
  go_wp2
  go_ret
  exact ⟨rfl, rfl⟩

end Go.Proofs.Ybulkaepu
