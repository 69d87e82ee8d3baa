/-
  How an argument '[]byte' is opened into what the walks ask; the closed facts on the program that both cards' proofs name.
-/
import Derived.Test.YbulkaepuFmtLawBytes
import Derived.Test.YbulkaepuFmtCards
import Derived.ProofKit
import Derived.OpenShut
import Derived.ShutString
import Derived.Stop.JoinedAt
import Derived.Stop.JoinedTold
import Derived.SevenToldRow
namespace Go.Proofs.YbulkaepuFmt
open Go.ChangeShapes Go.WideShapes Go.ChangeAt Go.RowKit
open Go.Extern.Stop Go.Stop Go.Extern

theorem arg_of {H : Type} {enc : TypeId × Value → H} {W : World} {a0 : Option Addr} {len cap fuel : Nat} {x : DataW H × List MemPlace}
    (hf : DataW.trod enc Ybaf.prog W 0 (fun _ => true) true fuel 22 [.slice a0 len cap] = some x) : ∃ xs, Arg W a0 len cap xs := by
  rcases open_ints Ybaf.underlying22 Ybaf.underlying5 (by kernel_rfl) hf with ⟨hcs, _⟩ | ⟨a, l, c, zs, hcs, _, hl, hm, hz, _, hcell, hwz⟩
  · simp at hcs
    obtain ⟨rfl, rfl, rfl⟩ := hcs
    exact ⟨[], Bytes.nil _ _, fun _ => ⟨rfl, rfl⟩, fun h => absurd h (Nat.lt_irrefl 0)⟩
  · simp at hcs
    obtain ⟨rfl, rfl, rfl⟩ := hcs
    simp at hz
    have key : 0 < len → ∃ b o, a = ⟨b, o, none⟩ ∧ (∀ i, i < zs.length → W.cell? ⟨b, o + i, none⟩ = some (.int .u8 (zs.getD i 0))) ∧ b < W.heap.size := fun hn => by
      obtain ⟨b, o, rfl, hc⟩ := ints_at hcell (by omega)
      exact ⟨b, o, rfl, hc, World.block_lt_of_cell? W _ (hc 0 (by omega))⟩
    refine ⟨zs.take len, ⟨by simp; omega, fun hn => ?_⟩, fun h => (by cases h), fun hn x hx => ?_⟩
    · obtain ⟨b, o, rfl, hc, _⟩ := key hn
      refine ⟨b, o, rfl, fun i hi => ?_⟩
      rw [hc i (by omega)]
      simp [hi]
    · obtain ⟨b, o, rfl, _, hlt⟩ := key hn
      obtain rfl := Option.some.inj hx
      exact hlt

theorem Ybaf.own : ownKnob Ybaf.prog.godebug = none := by kernel_rfl
theorem Ybaf.laidOut : laidOutB Ybaf.prog = true := by kernel_rfl
theorem Ybaf.stops : Ybaf.pinned.checked.prog.stops = ["fmt.Sprintf"] := by kernel_rfl
theorem Ybaf.stopKnobs : Ybaf.pinned.checked.prog.stopKnobs = [] := by kernel_rfl
theorem Ybaf.quiet (os : Os) : Stop.quiet Ybaf.pinned.checked.prog os := by
  intro k hk
  rw [Ybaf.stopKnobs] at hk
  cases hk

end Go.Proofs.YbulkaepuFmt
