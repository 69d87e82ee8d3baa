/-
  How an argument '[]ZzS1526CItem' is opened: its cells.
-/
import Derived.Test.YbulkaeosRows
import Derived.WalkKit
import Derived.ProofKit
import Derived.OpenShut
import Derived.Deep.SlicePairs
namespace Go.Proofs.Ybulkaeos
open Go.ChangeShapes Go.WideShapes Go.ChangeAt Go.RowKit

theorem Yba.cells41 : Yba.prog.cellsOf 41 = 2 := by kernel_rfl

/-- WHAT THE WALKS ARE TOLD OF THE ITEMS THAT CAME IN: there are none; or they lie in a row of pairs of cells. -/
def IsItems (w : World) (a0 : Option Addr) (len : Nat) : Prop :=
  len = 0 ∨ ∃ b off, ∃ K Q : Nat → Int, a0 = some ⟨b, off, none⟩ ∧ b < w.heap.size ∧
    (∀ j, j < len → w.cell? ⟨b, off + j * 2, none⟩ = some (.int .u8 (K j)) ∧ w.cell? ⟨b, off + j * 2 + 1, none⟩ = some (.int .u8 (Q j))) ∧ ∀ j, j < len → 0 ≤ K j ∧ K j ≤ 255

theorem items_of {H : Type} {enc : TypeId × Value → H} {W : World} {a0 : Option Addr} {len cap fuel : Nat} {x : DataW H × List MemPlace}
    (hf : DataW.trod enc Yba.prog W 0 (fun _ => true) true fuel 22 [.slice a0 len cap] = some x) : IsItems W a0 len := by
  rcases Go.Deep.open_slice_pairs Yba.underlying22 Yba.underlying41 Yba.cells41 rfl rfl (by kernel_rfl) (by kernel_rfl) hf with ⟨hcs, _⟩ | ⟨a, len', cap', m, n, V0, V1, D0, D1, P0, P1, hcs, _, hl, _, hm, _, hx⟩
  · simp at hcs
    exact Or.inl hcs.2.1
  · simp at hcs
    obtain ⟨rfl, rfl, rfl⟩ := hcs
    by_cases h0 : len = 0
    · exact Or.inl h0
    right
    simp at hm
    obtain ⟨b, off, spot⟩ := a
    have hspot : spot = none := by simpa [Addr.add] using World.cell?_spot (hx 0 (by omega)).1
    subst hspot
    have each : ∀ j, j < len → ∃ q : Int × Int, V0 j = .int .u8 q.1 ∧ V1 j = .int .u8 q.2 ∧ 0 ≤ q.1 ∧ q.1 ≤ 255 := by
      intro j hj
      obtain ⟨_, _, h2, h3⟩ := hx j (by omega)
      obtain ⟨k, e0, _, wk⟩ := DataW.trod_int Yba.underlying5 h2
      obtain ⟨q, e1, _, _⟩ := DataW.trod_int Yba.underlying5 h3
      simp at e0 e1
      have := bounds_u8 wk
      exact ⟨(k, q), e0, e1, this.1, by omega⟩
    obtain ⟨q, hq⟩ := Go.Deep.choose_lt each
    refine ⟨b, off, fun j => (q j).1, fun j => (q j).2, rfl, World.block_lt_of_cell? W _ (hx 0 (by omega)).1, fun j hj => ?_, fun j hj => ⟨(hq j hj).2.2.1, (hq j hj).2.2.2⟩⟩
    obtain ⟨h0', h1', _, _⟩ := hx j (by omega)
    rw [add_plain] at h0' h1'
    rw [(hq j hj).1] at h0'
    rw [(hq j hj).2.1] at h1'
    exact ⟨h0', by rw [Nat.add_assoc]; exact h1'⟩

end Go.Proofs.Ybulkaeos
