/-
  The encoder: '(*encoder).put' (function 10), '(*encoder).prefixed' (function 6), 'fail' (8) and fmt.Errorf (9, 11) on its way.
-/
import Derived.Test.YbulkaeosFmtBytes
namespace Go.Proofs.YbulkaeosFmt
open Go.RowKit Go.Extern.Stop Go.Stop Go.Extern

theorem Ybaf.info5 : (Ybaf.prog.info? 5).map (fun i => (i.zero, i.size, i.bytes)) = some (some (.int .u8 0), 1, 1) := by kernel_rfl

/-- THE ENCODER AT BLOCK E: its buffer holds the n bytes xs, in a row of the call's own (blocks from B on); its error is 'err'. -/
def Enc (B E : Nat) (w : World) (err : Value) (n : Nat) (xs : List Int) : Prop :=
  ∃ ao cap, w.heap[E]? = some (.cells #[.slice ao n cap, err] 28 (0, 0)) ∧ w.ownsRow B 5 1 (.slice ao n cap) n (xs.map (Value.int .u8)) ∧ B ≤ E

theorem own_form {w : World} {B e size n : Nat} {v : Value} {xs : List Value} (h : w.ownsRow B e size v n xs) : ∃ ao cap, v = .slice ao n cap := by
  rcases h.2 with ⟨rfl, rfl⟩ | ⟨g, cap, _, rfl, _⟩
  · exact ⟨none, 0, rfl⟩
  · exact ⟨_, cap, rfl⟩

/-- The encoder's block is not the buffer's. -/
theorem own_other {w : World} {B E n : Nat} {v : Value} {xs : List Value} {c : Array Value} (h : w.ownsRow B 5 1 v n xs) (hE : w.heap[E]? = some (.cells c 28 (0, 0))) : some E ≠ v.ownBlock := by
  rcases h.2 with ⟨rfl, rfl⟩ | ⟨g, cap, cur, rfl, _, hg, _⟩
  · simp [Value.ownBlock]
  · intro e
    simp [Value.ownBlock] at e
    subst e
    rw [hE] at hg
    simp at hg

theorem two_cells {w : World} {E : Nat} {x y : Value} (h : w.heap[E]? = some (.cells #[x, y] 28 (0, 0))) : w.cell? ⟨E, 0, none⟩ = some x ∧ w.cell? ⟨E, 1, none⟩ = some y ∧ w.frozen? ⟨E, 0, none⟩ = false ∧ w.frozen? ⟨E, 1, none⟩ = false ∧ E < w.heap.size := by
  refine ⟨by simp [World.cell?, h], by simp [World.cell?, h], by simp [World.frozen?, h], by simp [World.frozen?, h], (Array.getElem?_eq_some_iff.1 h).1⟩

theorem set_first {w : World} {E : Nat} {x y z : Value} (h : w.heap[E]? = some (.cells #[x, y] 28 (0, 0))) : (w.setCell ⟨E, 0, none⟩ z).heap[E]? = some (.cells #[z, y] 28 (0, 0)) := by
  simp [World.setCell, Array.getElem?_modify, h]
theorem set_second {w : World} {E : Nat} {x y z : Value} (h : w.heap[E]? = some (.cells #[x, y] 28 (0, 0))) : (w.setCell ⟨E, 1, none⟩ z).heap[E]? = some (.cells #[x, z] 28 (0, 0)) := by
  simp [World.setCell, Array.getElem?_modify, h]

/-- With an earlier error 'put' does nothing. -/
theorem put_failed (E : Nat) (x : Value) (t : TypeId) (y : Value) (a : Value) (w : World) (h : w.heap[E]? = some (.cells #[x, .iface t y] 28 (0, 0))) :
    Calls Ybaf.prog 10 #[.pointer (some ⟨E, 0, none⟩), a] w fun e w' => e = .returned (.tuple #[]) ∧ w' = w := by
  obtain ⟨_, c1, _, _, hl⟩ := two_cells h
  clear h
  go_enter Ybaf.func10, Ybaf.ntmps10
  go_wp2
  go_end0
  exact ⟨rfl, rfl⟩

set_option maxHeartbeats 400000 in
/-- Without one it appends. -/
theorem put_ok (B E : Nat) (n : Nat) (xs : List Int) (p : Option Addr) (m c : Nat) (ns : List Int) (w : World) (hE : Enc B E w .nilIface n xs) (hnil : p = none → m = 0 ∧ c = 0) (hsrc : Bytes w p m ns) (hn : n + m ≤ 1000000) :
    Calls Ybaf.prog 10 #[.pointer (some ⟨E, 0, none⟩), .slice p m c] w fun e w' => e = .returned (.tuple #[]) ∧ Enc B E w' .nilIface (n + m) (xs ++ ns) ∧ Below B w w' := by
  obtain ⟨ao, cap, hh, hown, hBE⟩ := hE
  obtain ⟨c0, c1, f0, f1, hl⟩ := two_cells hh
  have hne := own_other hown hh
  obtain ⟨i0, hi, hz0, hz1, hz2⟩ := info_parts Ybaf.info5
  have HH : Hid (w.heap[E]? = some (.cells #[.slice ao n cap, .nilIface] 28 (0, 0))) := hh
  clear hh
  go_enter Ybaf.func10, Ybaf.ntmps10
  go_wp2_with (at_builtin; refine wpList_append_bytes rfl _ _ 22 rfl B 5 i0 (.int .u8 0) 1 Ybaf.underlying22 hi hz0 hz1 hz2 rfl _ _ _ rfl hown p m c ns rfl hnil hsrc (by unfold maxLen; omega) (by omega) (by omega) ?_)
  intro v' w1 hown' hgrow
  obtain ⟨ao', cap', hv⟩ := own_form hown'
  rw [hv] at hown' ⊢
  clear hv
  have hh1 : w1.heap[E]? = some (.cells #[.slice ao n cap, .nilIface] 28 (0, 0)) := by rw [hgrow.block E hl hne]; exact HH.out
  obtain ⟨d0, d1, g0, g1, hl1⟩ := two_cells hh1
  have HR : Hid (Enc B E (w1.setCell ⟨E, 0, none⟩ (.slice ao' (n + m) cap')) .nilIface (n + m) (xs ++ ns)) :=
    ⟨ao', cap', set_first hh1, by rw [List.map_append]; exact (hown'.kept (row := some E) ⟨rfl, rfl, rfl, by simp [World.setCell], fun k _ hk => Below.heap_setCell _ _ _ _ (fun e => hk (by rw [e]))⟩ (Or.inr (fun e => own_other hown' hh1 e.symm))), hBE⟩
  have HB : Hid (Below B w (w1.setCell ⟨E, 0, none⟩ (.slice ao' (n + m) cap'))) :=
    ((Below.refl B w).grown hgrow (by omega) (fun k hk => (hown.lt k hk).1)).setCell hBE _
  clear hown hown' hgrow hne hh1 c0 c1 f0 f1 hsrc hnil
  go_wp2
  go_end0
  exact ⟨rfl, HR.out, HB.out⟩

end Go.Proofs.YbulkaeosFmt
