/-
  The walk over 'zzs1526cbuild' (function 5): the two rows that it lays.
-/
import Derived.Test.YbulkaeosRows
import Derived.WalkKit
import Derived.WalkSpells
import Derived.WalkLawsBesides
import Derived.Handy
import Derived.Deep.OwnRows
namespace Go.Proofs.Ybulkaeos
open Go.RowKit

theorem Yba.info45 : (Yba.prog.info? 45).map (fun i => (i.zero, i.size, i.bytes)) = some (some .nilIface, 1, 16) := by kernel_rfl
theorem Yba.info35 : (Yba.prog.info? 35).map (fun i => (i.zero, i.size, i.bytes)) = some (some (.pointer none), 1, 8) := by kernel_rfl

/-- A payload that is no SP: nil, a RAND or a T. -/
def NoSP (v : Value) : Prop := v = .nilIface ∨ (∃ a, v = .iface 46 (.pointer (some a))) ∨ ∃ a, v = .iface 50 (.pointer (some a))

/-- Block b is the box of an SP payload whose policy number is q. -/
def Boxed (wr : World) (b : Nat) (q : Int) : Prop := ∃ c : Array Value, wr.heap[b]? = some (.cells c 39 (0, 0)) ∧ c[0]? = some (.int .u8 q)

theorem Boxed.cell {wr : World} {b : Nat} {q : Int} (h : Boxed wr b q) : wr.cell? ⟨b, 0, none⟩ = some (.int .u8 q) := by
  obtain ⟨c, h1, h2⟩ := h
  simp [World.cell?, h1, h2]
theorem Boxed.lt {wr : World} {b : Nat} {q : Int} (h : Boxed wr b q) : b < wr.heap.size := by
  obtain ⟨c, h1, _⟩ := h
  exact (Array.getElem?_eq_some_iff.1 h1).1
theorem Boxed.keep {wr wr' : World} {b : Nat} {q : Int} (h : Boxed wr b q) (e : wr'.heap[b]? = wr.heap[b]?) : Boxed wr' b q := by
  obtain ⟨c, h1, h2⟩ := h
  exact ⟨c, e.trans h1, h2⟩
theorem Boxed.alloc {wr : World} {b : Nat} {q : Int} (h : Boxed wr b q) (o : Obj) : Boxed (wr.alloc o) b q := h.keep (Below.heap_alloc _ _ _ h.lt)
theorem Boxed.set {wr : World} {b : Nat} {q : Int} (h : Boxed wr b q) (a : Addr) (u : Value) (hb : b ≠ a.block) : Boxed (wr.setCell a u) b q := h.keep (Below.heap_setCell _ _ _ _ hb)

/-- What lies at place j of the two rows: an SP payload (its box from block B + 2 on, its first cell the policy number) in both; or no SP in the first and nil in the second. -/
def Elem (wr : World) (B : Nat) (Q : Nat → Int) (PV : Nat → Value) (PT : Nat → Option Addr) (j : Nat) : Prop :=
  (∃ b, B + 1 < b ∧ PT j = some ⟨b, 0, none⟩ ∧ PV j = .iface 35 (.pointer (some ⟨b, 0, none⟩)) ∧ Boxed wr b (Q j)) ∨
  (PT j = none ∧ NoSP (PV j))

theorem Elem.keep {wr wr' : World} {B : Nat} {Q : Nat → Int} {PV PV' : Nat → Value} {PT PT' : Nat → Option Addr} {j : Nat} (h : Elem wr B Q PV PT j) (e1 : PV' j = PV j) (e2 : PT' j = PT j)
    (hc : ∀ b q, B + 1 < b → Boxed wr b q → Boxed wr' b q) : Elem wr' B Q PV' PT' j := by
  rcases h with ⟨b, hb, h1, h2, h3⟩ | ⟨h1, h2⟩
  · exact Or.inl ⟨b, hb, by rw [e2, h1], by rw [e1, h2], hc b _ hb h3⟩
  · exact Or.inr ⟨by rw [e2, h1], by rw [e1]; exact h2⟩

theorem Elem.alloc {wr : World} {B : Nat} {Q : Nat → Int} {PV : Nat → Value} {PT : Nat → Option Addr} {j : Nat} (h : Elem wr B Q PV PT j) (o : Obj) : Elem (wr.alloc o) B Q PV PT j :=
  h.keep rfl rfl (fun _ _ _ hc => hc.alloc o)

/-- WHAT HOLDS AT THE LOOP's HEAD, k places filled. -/
def Built (B : Nat) (w wr : World) (n k : Nat) (Q : Nat → Int) : Prop :=
  ∃ PV PT, wr.rowIs B 45 n PV ∧ wr.rowIs (B + 1) 35 n (fun j => .pointer (PT j)) ∧ (∀ j, j < k → Elem wr B Q PV PT j) ∧ (∀ j, k ≤ j → PT j = none) ∧ Below B w wr

theorem built_start (w : World) (n : Nat) (Q : Nat → Int) : Built w.heap.size w ((w.alloc (.cells (madeCells #[.nilIface] n) 45)).alloc (.cells (madeCells #[.pointer none] n) 35)) n 0 Q := by
  have h2 := World.rowIs_made (w.alloc (.cells (madeCells #[.nilIface] n) 45)) (.pointer none) n 35
  rw [World.size_alloc] at h2
  exact ⟨fun _ => .nilIface, fun _ => none, (World.rowIs_made w .nilIface n 45).alloc _, h2, fun j hj => absurd hj (Nat.not_lt_zero _), fun _ _ => rfl,
    ((Below.refl _ _).alloc (Nat.le_refl _) _).alloc (by simp) _⟩

theorem Built.alloc {B : Nat} {w wr : World} {n k : Nat} {Q : Nat → Int} (h : Built B w wr n k Q) (o : Obj) : Built B w (wr.alloc o) n k Q := by
  obtain ⟨PV, PT, h1, h2, h3, h4, h5⟩ := h
  have := h1.lt
  exact ⟨PV, PT, h1.alloc o, h2.alloc o, fun j hj => (h3 j hj).alloc o, h4, h5.alloc (by omega) o⟩

/-- A place filled with what is no SP. -/
theorem Built.no {B : Nat} {w wr : World} {n k : Nat} {Q : Nat → Int} (h : Built B w wr n k Q) {v : Value} (hv : NoSP v) : Built B w (wr.setCell ⟨B, k, none⟩ v) n (k + 1) Q := by
  obtain ⟨PV, PT, h1, h2, h3, h4, h5⟩ := h
  refine ⟨fun j => if j = k then v else PV j, PT, h1.set k v, h2.setOther (by simp) v, fun j hj => ?_, fun j hj => h4 j (by omega), h5.setCell (Nat.le_refl _) _⟩
  by_cases e : j = k
  · subst e
    exact Or.inr ⟨h4 j (Nat.le_refl _), by simpa using hv⟩
  · exact (h3 j (by omega)).keep (by simp [e]) rfl (fun b u hb hc => hc.set _ _ (by simp; omega))

/-- A place filled with an SP. -/
theorem Built.sp {B : Nat} {w wr : World} {n k : Nat} {Q : Nat → Int} (h : Built B w wr n k Q) (o : Obj) (x y : Value) :
    Built B w ((((wr.setCell ⟨B, k, none⟩ (.iface 35 (.pointer (some ⟨wr.heap.size + 1, 0, none⟩)))).setCell ⟨B + 1, k, none⟩ (.pointer (some ⟨wr.heap.size + 1, 0, none⟩))).alloc o).alloc (.cells #[.int .u8 (Q k), x, y] 39)) n (k + 1) Q := by
  obtain ⟨PV, PT, h1, h2, h3, h4, h5⟩ := h
  have l1 := h1.lt
  have l2 := h2.lt
  refine ⟨fun j => if j = k then .iface 35 (.pointer (some ⟨wr.heap.size + 1, 0, none⟩)) else PV j, fun j => if j = k then some ⟨wr.heap.size + 1, 0, none⟩ else PT j,
    (((h1.set k _).setOther (by simp) _).alloc _).alloc _, (((((h2.setOther (by simp) _).set k _).alloc _).alloc _).congr fun j _ => ?_), fun j hj => ?_, fun j hj => ?_, ?_⟩
  · by_cases e : j = k <;> simp [e]
  · by_cases e : j = k
    · subst e
      refine Or.inl ⟨wr.heap.size + 1, by omega, by simp, by simp, ?_⟩
      refine ⟨#[.int .u8 (Q j), x, y], ?_, rfl⟩
      have e := heap_alloc_new (((wr.setCell ⟨B, j, none⟩ (.iface 35 (.pointer (some ⟨wr.heap.size + 1, 0, none⟩)))).setCell ⟨B + 1, j, none⟩ (.pointer (some ⟨wr.heap.size + 1, 0, none⟩))).alloc o) (.cells #[.int .u8 (Q j), x, y] 39)
      have hs : ((((wr.setCell ⟨B, j, none⟩ (.iface 35 (.pointer (some ⟨wr.heap.size + 1, 0, none⟩)))).setCell ⟨B + 1, j, none⟩ (.pointer (some ⟨wr.heap.size + 1, 0, none⟩))).alloc o)).heap.size = wr.heap.size + 1 := by simp
      rw [hs] at e
      exact e
    · refine (h3 j (by omega)).keep (by simp [e]) (by simp [e]) (fun b u hb hc => (((hc.set _ _ (by simp; omega)).set _ _ (by simp; omega)).alloc _).alloc _)
  · simp only
    rw [if_neg (by omega)]
    exact h4 j (by omega)
  · exact (((h5.setCell (Nat.le_refl _) _).setCell (by simp) _).alloc (by simp; omega) _).alloc (by simp; omega) _

set_option maxHeartbeats 400000 in
theorem build_some (b off n cap : Nat) (K Q : Nat → Int) (w : World) (hn : n ≤ 1024) (hb : b < w.heap.size)
    (hK : ∀ j, j < n → w.cell? ⟨b, off + j * 2, none⟩ = some (.int .u8 (K j)) ∧ w.cell? ⟨b, off + j * 2 + 1, none⟩ = some (.int .u8 (Q j)))
    (hKb : ∀ j, j < n → 0 ≤ K j ∧ K j ≤ 255) :
    Calls Yba.prog 5 #[.slice (some ⟨b, off, none⟩) n cap] w fun e w' => e = .returned (.tuple #[.slice (some ⟨w.heap.size, 0, none⟩) n n, .slice (some ⟨w.heap.size + 1, 0, none⟩) n n]) ∧ Built w.heap.size w w' n n Q := by
  have hmk1 := run_make_row' (P := Yba.prog) 23 45 .nilIface 16 Yba.underlying23 Yba.info45 rfl .i64 .i64 n (by omega) (by omega)
  have hmk2 := run_make_row' (P := Yba.prog) 24 35 (.pointer none) 8 Yba.underlying24 Yba.info35 rfl .i64 .i64 n (by omega) (by omega)
  go_enter Yba.func5, Yba.ntmps5
  go_wp2
  go_loopw [6] (fun i wr => ∃ k : Nat, k ≤ n ∧ i = .int .i64 k ∧ Built w.heap.size w wr n k Q) (fun i _ => n - (intOf i).toNat)
  case atStart => exact ⟨0, Nat.zero_le _, rfl, built_start w n Q⟩
  case round =>
    obtain ⟨k, hk, rfl, hB⟩ := hrel
    by_cases hlt : k < n
    · obtain ⟨c0, c1⟩ := hK k hlt
      obtain ⟨k0, k1⟩ := hKb k hlt
      obtain ⟨PV, PT, hP, hS, _, _, hbel⟩ := id hB
      rw [← hbel.cell (p := ⟨b, off + k * 2, none⟩) hb] at c0
      rw [← hbel.cell (p := ⟨b, off + k * 2 + 1, none⟩) hb] at c1
      have f0 := hP.frozen k
      have f1 := hS.frozen k
      have l0 := hP.lt
      have l1 := hS.lt
      have g0 := hP.cell hlt
      have g1 := hS.cell hlt
      clear hP hS hbel hK hKb hmk1 hmk2
      go_wp2
      · go_roundw
        case rel => exact ⟨k + 1, by omega, by go_num, hB.sp _ _ _⟩
        case measure => simp [intOf]; omega
      · have R := ((hB.no (v := .iface 46 (.pointer (some ⟨wr.heap.size + 1, 0, none⟩))) (Or.inr (Or.inl ⟨_, rfl⟩))).alloc (.cells #[.int .u8 (K k), .int .u8 (Q k)] 41)).alloc (.cells #[.slice none 0 0] 49)
        go_roundw
        case rel => exact ⟨k + 1, by omega, by go_num, R⟩
        case measure => simp [intOf]; omega
      · have R := ((hB.no (v := .iface 50 (.pointer (some ⟨wr.heap.size + 1, 0, none⟩))) (Or.inr (Or.inr ⟨_, rfl⟩))).alloc (.cells #[.int .u8 (K k), .int .u8 (Q k)] 41)).alloc (.cells #[.int .u8 0, .slice none 0 0] 53)
        go_roundw
        case rel => exact ⟨k + 1, by omega, by go_num, R⟩
        case measure => simp [intOf]; omega
      · have R := (hB.no (v := .nilIface) (Or.inl rfl)).alloc (.cells #[.int .u8 (K k), .int .u8 (Q k)] 41)
        go_roundw
        case rel => exact ⟨k + 1, by omega, by go_num, R⟩
        case measure => simp [intOf]; omega
    · obtain rfl : k = n := by omega
      go_wp2
      go_ret2
      exact ⟨rfl, hB⟩

/-- .. over a slice without elements. -/
theorem build_none (a0 : Option Addr) (cap : Nat) (Q : Nat → Int) (w : World) :
    Calls Yba.prog 5 #[.slice a0 0 cap] w fun e w' => e = .returned (.tuple #[.slice (some ⟨w.heap.size, 0, none⟩) 0 0, .slice (some ⟨w.heap.size + 1, 0, none⟩) 0 0]) ∧ Built w.heap.size w w' 0 0 Q := by
  have hmk1 : ∀ w, (Instr.makeSlice 23 (.int .i64 0) (.int .i64 0)).run Yba.prog w = _ := run_make_row' (P := Yba.prog) 23 45 .nilIface 16 Yba.underlying23 Yba.info45 rfl .i64 .i64 0 (by omega) (by omega)
  have hmk2 : ∀ w, (Instr.makeSlice 24 (.int .i64 0) (.int .i64 0)).run Yba.prog w = _ := run_make_row' (P := Yba.prog) 24 35 (.pointer none) 8 Yba.underlying24 Yba.info35 rfl .i64 .i64 0 (by omega) (by omega)
  have hs := built_start w 0 Q
  go_enter Yba.func5, Yba.ntmps5
  go_wp2
  go_rounds 1
  go_ret2
  exact ⟨rfl, hs⟩

end Go.Proofs.Ybulkaeos
