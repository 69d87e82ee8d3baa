/-
  '(*encoder).uint' (function 12), over the law's own order.
-/
import Derived.Test.YbulkaepuFmtOrd
import Derived.Deep.RegionWith
namespace Go.Proofs.YbulkaepuFmt
open Go.RowKit

theorem inv32 (a : Addr) (x y : Value) (w : World) : (callMethod (.iface 23 (.pointer (some a))) "AppendUint32" #[x, y]).run Ybaf.prog w = .ok (.enter 31 #[.pointer (some a), x, y]) w := by kernel_rfl
theorem inv64 (a : Addr) (x y : Value) (w : World) : (callMethod (.iface 23 (.pointer (some a))) "AppendUint64" #[x, y]).run Ybaf.prog w = .ok (.enter 32 #[.pointer (some a), x, y]) w := by kernel_rfl
theorem meth32 (a : Addr) (w : World) : (method 209 23 (.pointer (some a)) "AppendUint32").run Ybaf.prog w = .ok (31, .pointer (some a)) w := by kernel_rfl
theorem meth64 (a : Addr) (w : World) : (method 209 23 (.pointer (some a)) "AppendUint64").run Ybaf.prog w = .ok (32, .pointer (some a)) w := by kernel_rfl
attribute [local go_sem] inv32 inv64 meth32 meth64

/-- THE ENCODER AT BLOCK E: its buffer holds the n bytes xs, in a row of the call's own (blocks from B on); its order, its layout (byte order, the size of a size_t); no error. -/
def Enc (B E : Nat) (w : World) (ord : Value) (bl : Bool) (SZ : Int) (n : Nat) (xs : List Int) : Prop :=
  ∃ ao cap, w.heap[E]? = some (.cells #[.slice ao n cap, ord, .bool bl, .int .i64 0, .int .i64 SZ, .int .i64 0, .int .i64 0, .int .i64 0, .nilIface] 35 (0, 0)) ∧ w.ownsRow B 5 1 (.slice ao n cap) n (xs.map (Value.int .u8)) ∧ B ≤ E

theorem enc_cells {w : World} {E : Nat} {x ord : Value} {bl : Bool} {SZ : Int} (h : w.heap[E]? = some (.cells #[x, ord, .bool bl, .int .i64 0, .int .i64 SZ, .int .i64 0, .int .i64 0, .int .i64 0, .nilIface] 35 (0, 0))) :
    w.cell? ⟨E, 0, none⟩ = some x ∧ w.cell? ⟨E, 1, none⟩ = some ord ∧ w.cell? ⟨E, 4, none⟩ = some (.int .i64 SZ) ∧ w.cell? ⟨E, 8, none⟩ = some .nilIface ∧ w.frozen? ⟨E, 0, none⟩ = false ∧ E < w.heap.size :=
  ⟨by simp [World.cell?, h], by simp [World.cell?, h], by simp [World.cell?, h], by simp [World.cell?, h], by simp [World.frozen?, h], (Array.getElem?_eq_some_iff.1 h).1⟩

theorem enc_set {w : World} {E : Nat} {x y ord : Value} {bl : Bool} {SZ : Int} (h : w.heap[E]? = some (.cells #[x, ord, .bool bl, .int .i64 0, .int .i64 SZ, .int .i64 0, .int .i64 0, .int .i64 0, .nilIface] 35 (0, 0))) :
    (w.setCell ⟨E, 0, none⟩ y).heap[E]? = some (.cells #[y, ord, .bool bl, .int .i64 0, .int .i64 SZ, .int .i64 0, .int .i64 0, .int .i64 0, .nilIface] 35 (0, 0)) := by
  simp [World.setCell, Array.getElem?_modify, h]

/-- A boxed string is as it was. -/
def K38 (w w' : World) : Prop := ∀ (k : Nat) (c : Array Value), w.heap[k]? = some (.cells c 38 (0, 0)) → w'.heap[k]? = some (.cells c 38 (0, 0))
theorem K38.trans {a b c : World} (h : K38 a b) (k : K38 b c) : K38 a c := fun i x hx => k i x (h i x hx)
theorem K38.alloc (w : World) (o : Obj) : K38 w (w.alloc o) := fun i c hx => by rw [Below.heap_alloc _ _ _ (Array.getElem?_eq_some_iff.1 hx).1]; exact hx
theorem K38.of_kept {E : Nat} {w w' : World} {c : Array Value} {t : TypeId} (h : Kept E w w') (hE : w.heap[E]? = some (.cells c t (0, 0))) (ht : t ≠ 38) : K38 w w' := fun i x hx =>
  h.at hx (by decide) (fun e => by subst e; rw [hE] at hx; simp at hx; exact ht hx.2)
theorem K38.set {w : World} {E i : Nat} {v : Value} {c : Array Value} {t : TypeId} (hE : w.heap[E]? = some (.cells c t (0, 0))) (ht : t ≠ 38) : K38 w (w.setCell ⟨E, i, none⟩ v) := fun j x hx => by
  rw [Below.heap_setCell _ _ _ _ (fun e => by simp at e; subst e; rw [hE] at hx; simp at hx; exact ht hx.2)]; exact hx

/-- Storing the row that the order has handed back. -/
theorem enc_store {w1 : World} {B E n cap : Nat} {x ord : Value} {bl : Bool} {SZ : Int} {ao : Option Addr} {xs : List Int} (hown : w1.ownsRow B 5 1 (.slice ao n cap) n (xs.map (Value.int .u8))) (hBE : B ≤ E)
    (hh1 : w1.heap[E]? = some (.cells #[x, ord, .bool bl, .int .i64 0, .int .i64 SZ, .int .i64 0, .int .i64 0, .int .i64 0, .nilIface] 35 (0, 0))) :
    Enc B E (w1.setCell ⟨E, 0, none⟩ (.slice ao n cap)) ord bl SZ n xs := by
  refine ⟨ao, cap, enc_set hh1, hown.kept (row := some E) ⟨rfl, rfl, rfl, by simp [World.setCell], fun k _ hk => Below.heap_setCell _ _ _ _ (fun e => hk (by rw [e]))⟩ (Or.inr (fun e => ?_)), hBE⟩
  rcases hown.2 with ⟨h, _⟩ | ⟨g, _, _, h, _, hg, _⟩
  · simp at h
    obtain ⟨rfl, _, _⟩ := h
    simp [Value.ownBlock] at e
  · simp at h
    obtain ⟨rfl, _⟩ := h
    simp [Value.ownBlock] at e
    subst e
    rw [hh1] at hg
    simp at hg

theorem Log1.setE {w1 : World} {O E i : Nat} {W : Int} {v : Value} {c : Array Value} (h : Log1 w1 O W) (hh1 : w1.heap[E]? = some (.cells c 35 (0, 0))) : Log1 (w1.setCell ⟨E, i, none⟩ v) O W := by
  obtain ⟨g, cap, cur, h1, h2, h3⟩ := h
  refine ⟨g, cap, cur, ?_, ?_, h3⟩
  · rw [Below.heap_setCell _ _ _ _ (fun e => by simp at e; subst e; rw [hh1] at h1; simp at h1)]; exact h1
  · rw [Below.heap_setCell _ _ _ _ (fun e => by simp at e; subst e; rw [hh1] at h2; simp at h2)]; exact h2

set_option maxHeartbeats 300000 in
theorem uint_own4 (B E O : Nat) (bl : Bool) (SZ : Int) (n : Nat) (xs : List Int) (N : Nat) (w : World) (hn : n ≤ 10000) (hN : N ≤ 2000) (hE : Enc B E w (.iface 23 (.pointer (some ⟨O, 0, none⟩))) bl SZ n xs) (hBO : B ≤ O) (hO : Log0 w O) :
    Calls Ybaf.prog 12 #[.pointer (some ⟨E, 0, none⟩), .int .i64 4, .int .u64 N] w fun e w' => e = .returned (.tuple #[]) ∧ Enc B E w' (.iface 23 (.pointer (some ⟨O, 0, none⟩))) bl SZ (n + 4) (xs ++ le N 4) ∧ Log1 w' O 4 ∧ Below B w w' ∧ K38 w w' := by
  obtain ⟨ao, cap, hh, hown, hBE⟩ := hE
  obtain ⟨c0, c1, c4, c8, f0, hl⟩ := enc_cells hh
  have HH : Hid (w.heap[E]? = some (.cells #[.slice ao n cap, .iface 23 (.pointer (some ⟨O, 0, none⟩)), .bool bl, .int .i64 0, .int .i64 SZ, .int .i64 0, .int .i64 0, .int .i64 0, .nilIface] 35 (0, 0))) := hh
  have hEO : E ≠ O := by
    rintro rfl
    unfold Log0 at hO
    rw [hh] at hO
    simp at hO
  have hwr : IntKind.u32.wrap (N : Int) = (N : Int) := by rw [IntKind.wrap_u32]; omega
  clear hh
  go_enter Ybaf.func12, Ybaf.ntmps12
  go_wp2
  go_region_with
    ((go_at_call 31; refine (own32 B O _ n xs N _ (by exact hown) (by omega) hBO (by exact hO)).mono ?_; rintro e w1 ⟨ao1, cap1, rfl, hS⟩; have hh1 := hS.kept.at HH.out (by decide) hEO; obtain ⟨d0, d1, d4, d8, g0, hl1⟩ := enc_cells hh1))
  all_goals
    go_end0
    exact ⟨rfl, enc_store hS.own hBE hh1, hS.log.setE hh1, ((Below.refl B w).drew.trans hS.bel).setCell (p := ⟨E, 0, none⟩) hBE _, K38.trans (b := w1) (show K38 w.drew w1 from K38.of_kept hS.kept hO (by decide)) (K38.set hh1 (by decide))⟩

set_option maxHeartbeats 300000 in
theorem uint_own8 (B E O : Nat) (bl : Bool) (SZ : Int) (n : Nat) (xs : List Int) (N : Nat) (s : Int) (w : World) (hs : (s == 4) = false) (hn : n ≤ 10000) (hE : Enc B E w (.iface 23 (.pointer (some ⟨O, 0, none⟩))) bl SZ n xs) (hBO : B ≤ O) (hO : Log0 w O) :
    Calls Ybaf.prog 12 #[.pointer (some ⟨E, 0, none⟩), .int .i64 s, .int .u64 N] w fun e w' => e = .returned (.tuple #[]) ∧ Enc B E w' (.iface 23 (.pointer (some ⟨O, 0, none⟩))) bl SZ (n + 8) (xs ++ le N 8) ∧ Log1 w' O 8 ∧ Below B w w' ∧ K38 w w' := by
  obtain ⟨ao, cap, hh, hown, hBE⟩ := hE
  obtain ⟨c0, c1, c4, c8, f0, hl⟩ := enc_cells hh
  have HH : Hid (w.heap[E]? = some (.cells #[.slice ao n cap, .iface 23 (.pointer (some ⟨O, 0, none⟩)), .bool bl, .int .i64 0, .int .i64 SZ, .int .i64 0, .int .i64 0, .int .i64 0, .nilIface] 35 (0, 0))) := hh
  have hEO : E ≠ O := by
    rintro rfl
    unfold Log0 at hO
    rw [hh] at hO
    simp at hO
  clear hh
  go_enter Ybaf.func12, Ybaf.ntmps12
  go_wp2
  go_region_with
    ((go_at_call 32; refine (own64 B O _ n xs N _ (by exact hown) (by omega) hBO (by exact hO)).mono ?_; rintro e w1 ⟨ao1, cap1, rfl, hS⟩; have hh1 := hS.kept.at HH.out (by decide) hEO; obtain ⟨d0, d1, d4, d8, g0, hl1⟩ := enc_cells hh1))
  all_goals
    go_end0
    exact ⟨rfl, enc_store hS.own hBE hh1, hS.log.setE hh1, ((Below.refl B w).drew.trans hS.bel).setCell (p := ⟨E, 0, none⟩) hBE _, K38.trans (b := w1) (show K38 w.drew w1 from K38.of_kept hS.kept hO (by decide)) (K38.set hh1 (by decide))⟩

end Go.Proofs.YbulkaepuFmt
