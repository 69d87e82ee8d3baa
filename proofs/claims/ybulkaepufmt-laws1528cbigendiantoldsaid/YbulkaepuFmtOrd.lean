/-
  The byte orders: the law's own (functions 31, 32) and the library's big-endian one (functions 40, 41): what each appends.
-/
import Derived.Test.YbulkaepuFmtBytes
import Derived.Deep.OwnRows
namespace Go.Proofs.YbulkaepuFmt
open Go.RowKit

theorem Ybaf.info5 : (Ybaf.prog.info? 5).map (fun i => (i.zero, i.size, i.bytes)) = some (some (.int .u8 0), 1, 1) := by kernel_rfl
theorem Ybaf.info3 : (Ybaf.prog.info? 3).map (fun i => (i.zero, i.size, i.bytes)) = some (some (.int .i64 0), 1, 8) := by kernel_rfl

/-- Byte i of the number N, counted from the least. -/
def byteAt (N i : Nat) : Int := (N : Int) / 2 ^ (8 * i) % 256
/-- N in k bytes, the least first. -/
def le (N k : Nat) : List Int := (List.range k).map (byteAt N)
theorem le_succ (N k : Nat) : le N (k + 1) = le N k ++ [byteAt N k] := by simp [le, List.range_succ]
theorem le_length (N k : Nat) : (le N k).length = k := by simp [le]

theorem own_form {w : World} {B e size n : Nat} {v : Value} {xs : List Value} (h : w.ownsRow B e size v n xs) : ∃ ao cap, v = .slice ao n cap := by
  rcases h.2 with ⟨rfl, rfl⟩ | ⟨g, cap, _, rfl, _⟩
  · exact ⟨none, 0, rfl⟩
  · exact ⟨_, cap, rfl⟩

/-- EVERY OLD BLOCK BUT E, AND BUT THE ROWS OF BYTES, IS AS IT WAS. -/
def Kept (E : Nat) (w w' : World) : Prop := ∀ k, k < w.heap.size → k ≠ E → (∀ c, w.heap[k]? ≠ some (.cells c 5 (0, 0))) → w'.heap[k]? = w.heap[k]?
/-- EVERY OLD BLOCK BUT THE ROWS OF BYTES IS AS IT WAS. -/
def Same5 (w w' : World) : Prop := w.heap.size ≤ w'.heap.size ∧ ∀ k, k < w.heap.size → (∀ c, w.heap[k]? ≠ some (.cells c 5 (0, 0))) → w'.heap[k]? = w.heap[k]?

theorem Same5.refl (w : World) : Same5 w w := ⟨Nat.le_refl _, fun _ _ _ => rfl⟩
theorem Same5.alloc (w : World) (o : Obj) : Same5 w (w.alloc o) := ⟨by simp, fun k hk _ => Below.heap_alloc _ _ _ hk⟩
theorem Same5.drew {w w' : World} (h : Same5 w w') : Same5 w w'.drew := h
theorem Same5.drewN {w w' : World} (h : Same5 w w') (n : Nat) : Same5 w (w'.drewN n) := h
theorem Same5.trans {a b c : World} (h : Same5 a b) (k : Same5 b c) : Same5 a c :=
  ⟨Nat.le_trans h.1 k.1, fun i hi hx => by
    have e := h.2 i hi hx
    rw [k.2 i (Nat.lt_of_lt_of_le hi h.1) (fun c => by rw [e]; exact hx c), e]⟩
theorem Same5.append {w w' : World} {B n : Nat} {v : Value} {xs : List Value} (h : w.ownsRow B 5 1 v n xs) (hg : w.grownBy w' v.ownBlock) : Same5 w w' :=
  ⟨hg.size, fun k hk hx => hg.block k hk (fun e => by
    rcases h.2 with ⟨rfl, _⟩ | ⟨g, cap, cur, rfl, _, hh, _⟩
    · simp [Value.ownBlock] at e
    · simp [Value.ownBlock] at e
      subst e
      exact hx cur hh)⟩
theorem Same5.at {w w' : World} (h : Same5 w w') {k : Nat} {c : Array Value} {t : TypeId} (hk : w.heap[k]? = some (.cells c t (0, 0))) (ht : t ≠ 5) : w'.heap[k]? = some (.cells c t (0, 0)) := by
  rw [h.2 k (Array.getElem?_eq_some_iff.1 hk).1 (fun c' e => by rw [hk] at e; simp at e; exact ht e.2)]
  exact hk
theorem Kept.refl (E : Nat) (w : World) : Kept E w w := fun _ _ _ _ => rfl
theorem Kept.same {E : Nat} {a b c : World} (h : Kept E a b) (hs : a.heap.size ≤ b.heap.size) (k : Same5 b c) : Kept E a c := fun i hi hE hx => by
  have e := h i hi hE hx
  rw [k.2 i (Nat.lt_of_lt_of_le hi hs) (fun c => by rw [e]; exact hx c), e]
theorem Kept.at {E : Nat} {w w' : World} (h : Kept E w w') {k : Nat} {c : Array Value} {t : TypeId} (hk : w.heap[k]? = some (.cells c t (0, 0))) (ht : t ≠ 5) (hE : k ≠ E) : w'.heap[k]? = some (.cells c t (0, 0)) := by
  rw [h k (Array.getElem?_eq_some_iff.1 hk).1 hE (fun c' e => by rw [hk] at e; simp at e; exact ht e.2)]
  exact hk
theorem Same5.set {E : Nat} {a b : World} (h : Same5 a b) (i : Nat) (v : Value) : Kept E a (b.setCell ⟨E, i, none⟩ v) := fun k hk hE hx => by
  rw [Below.heap_setCell _ _ _ _ hE]; exact h.2 k hk hx

/-- THE ORDER's LOG (block O) HOLDS ONE CALL, of width W. -/
def Log1 (w : World) (O : Nat) (W : Int) : Prop := ∃ h cap cur, w.heap[O]? = some (.cells #[.slice (some ⟨h, 0, none⟩) 1 cap] 26 (0, 0)) ∧ w.heap[h]? = some (.cells cur 3 (0, 0)) ∧ cur[0]? = some (.int .i64 W)
/-- .. HOLDS NONE. -/
def Log0 (w : World) (O : Nat) : Prop := w.heap[O]? = some (.cells #[.slice none 0 0] 26 (0, 0))

theorem Log1.same {w w' : World} {O : Nat} {W : Int} (h : Log1 w O W) (k : Same5 w w') : Log1 w' O W := by
  obtain ⟨h', cap, cur, h1, h2, h3⟩ := h
  exact ⟨h', cap, cur, k.at h1 (by decide), k.at h2 (by decide), h3⟩

/-- WHAT HOLDS AT THE HEAD OF THE ROUND THAT APPENDS A BYTE. -/
structure St (B O : Nat) (W : Int) (w wr : World) (v : Value) (n : Nat) (xs : List Int) : Prop where
  own : wr.ownsRow B 5 1 v n (xs.map (Value.int .u8))
  log : Log1 wr O W
  bel : Below B w wr
  kept : Kept O w wr

theorem St.append {B O : Nat} {W : Int} {w wr w1 : World} {v v' : Value} {n : Nat} {xs : List Int} {q : Int} {o : Obj} (h : St B O W w wr v n xs) (hB : B ≤ wr.heap.size) (hgrow : (wr.alloc o).grownBy w1 v.ownBlock) (hown : w1.ownsRow B 5 1 v' (n + 1) (xs.map (Value.int .u8) ++ [q].map (Value.int .u8))) :
    St B O W w w1 v' (n + 1) (xs ++ [q]) := by
  have hs : Same5 wr w1 := (Same5.alloc wr o).trans (Same5.append (h.own.alloc o) hgrow)
  exact ⟨by rw [List.map_append]; exact hown, h.log.same hs, (h.bel.alloc hB o).grown hgrow (by simp; omega) (fun k hk => (h.own.lt k hk).1), h.kept.same h.bel.size hs⟩

theorem st_start {B O : Nat} {W : Int} {w w1 : World} {v : Value} {n : Nat} {xs : List Int} {g cap : Nat} {o : Obj} (hown : w.ownsRow B 5 1 v n (xs.map (Value.int .u8))) (hBO : B ≤ O) (hO : w.heap[O]? = some (.cells #[.slice none 0 0] 26 (0, 0)))
    (hg : (w.alloc o).grownBy w1 none) (hown1 : w1.ownsRow B 3 1 (.slice (some ⟨g, 0, none⟩) 1 cap) 1 [.int .i64 W]) :
    St B O W w (w1.setCell ⟨O, 0, none⟩ (.slice (some ⟨g, 0, none⟩) 1 cap)) v n xs := by
  have hl : O < w.heap.size := (Array.getElem?_eq_some_iff.1 hO).1
  have hs0 : ∀ k, k < w.heap.size → w1.heap[k]? = w.heap[k]? := fun k hk => by rw [hg.block k (by simp; omega) (by simp), Below.heap_alloc _ _ _ hk]
  have hsz : w.heap.size ≤ w1.heap.size := by have := hg.size; simp at this; omega
  have hO1 : w1.heap[O]? = some (.cells #[.slice none 0 0] 26 (0, 0)) := by rw [hs0 O hl]; exact hO
  have hO2 : (w1.setCell ⟨O, 0, none⟩ (.slice (some ⟨g, 0, none⟩) 1 cap)).heap[O]? = some (.cells #[.slice (some ⟨g, 0, none⟩) 1 cap] 26 (0, 0)) := by
    simp [World.setCell, Array.getElem?_modify, hO1]
  have hcur : ∃ cur, w1.heap[g]? = some (.cells cur 3 (0, 0)) ∧ cur[0]? = some (.int .i64 W) := by
    rcases hown1.2 with ⟨e, _⟩ | ⟨g', cap', cur, e, _, hh, _, _, hcs, ht⟩
    · cases e
    · simp at e
      obtain ⟨rfl, rfl⟩ := e
      refine ⟨cur, hh, ?_⟩
      have : (cur.toList.take 1)[0]? = some (.int .i64 W) := by rw [show cur.toList.take 1 = [.int .i64 W] from by simpa using ht]; rfl
      simpa using this
  obtain ⟨cur, hc1, hc2⟩ := hcur
  have hgO : g ≠ O := by rintro rfl; rw [hO1] at hc1; simp at hc1
  refine ⟨?_, ⟨g, cap, cur, hO2, by rw [Below.heap_setCell _ _ _ _ hgO]; exact hc1, hc2⟩, ?_, ?_⟩
  · refine hown.kept (row := some O) ⟨hg.os, hg.tape, hg.output, by simp [World.setCell]; omega, fun k hk hk2 => ?_⟩ (Or.inr (fun e => ?_))
    · rw [Below.heap_setCell _ _ _ _ (fun e => hk2 (by rw [e])), hs0 k hk]
    · rcases hown.2 with ⟨rfl, _⟩ | ⟨g', _, _, rfl, _, hh, _⟩
      · simp [Value.ownBlock] at e
      · simp [Value.ownBlock] at e
        subst e
        rw [hO] at hh
        simp at hh
  · exact (((Below.refl B w).alloc (by omega) o).grown hg (by simp; omega) (fun k hk => by cases hk)).setCell hBO _
  · exact fun k hk hE _ => by rw [Below.heap_setCell _ _ _ _ hE, hs0 k hk]

theorem bytes_one (w : World) (q : Int) : Bytes (w.alloc (.cells #[.int .u8 q] 5)) (some ⟨w.heap.size, 0, none⟩) 1 [q] :=
  ⟨rfl, fun _ => ⟨w.heap.size, 0, rfl, fun i hi => by
    obtain rfl : i = 0 := by omega
    rw [World.cell?_alloc_at _ _ _ _ rfl]
    rfl⟩⟩

set_option maxHeartbeats 400000 in
theorem own32 (B O : Nat) (v : Value) (n : Nat) (xs : List Int) (N : Nat) (w : World) (hv : w.ownsRow B 5 1 v n (xs.map (Value.int .u8))) (hn : n ≤ 100000) (hBO : B ≤ O) (hO : Log0 w O) :
    Calls Ybaf.prog 31 #[.pointer (some ⟨O, 0, none⟩), v, .int .u32 N] w fun e w' => ∃ ao cap, e = .returned (.slice ao (n + 4) cap) ∧ St B O 4 w w' (.slice ao (n + 4) cap) (n + 4) (xs ++ le N 4) := by
  obtain ⟨i0, hi, hz0, hz1, hz2⟩ := info_parts Ybaf.info5
  obtain ⟨i1, hi1, hy0, hy1, hy2⟩ := info_parts Ybaf.info3
  have hO' : w.heap[O]? = some (.cells #[.slice none 0 0] 26 (0, 0)) := hO
  have c0 : w.cell? ⟨O, 0, none⟩ = some (.slice none 0 0) := by simp [World.cell?, hO']
  have f0 : w.frozen? ⟨O, 0, none⟩ = false := by simp [World.frozen?, hO']
  have hl : O < w.heap.size := (Array.getElem?_eq_some_iff.1 hO').1
  clear hO'
  go_enter Ybaf.func31, Ybaf.ntmps31
  go_wp2_with (at_builtin; refine wpList_append_lies _ rfl _ _ 24 rfl B 3 i1 (.int .i64 0) 1 8 Ybaf.underlying24 hi1 hy0 hy1 hy2 rfl (by decide) (.slice none 0 0) 0 [] rfl (World.ownsRow_nil _ _ _ _) ⟨w.heap.size, 0, none⟩ 1 1 [.int .i64 4] rfl rfl (cell_one_new _ _ _) ?c2 (by decide) ?c3 ?c4 ?c5 (w.heap.size + 1) (by simp) ?_)
  case c2 => intro u hu; simp at hu; subst hu; rfl
  case c3 => unfold maxLen; omega
  case c4 => omega
  case c5 => simp; omega
  intro g cap w1 hown1 hgrow1 _ _
  have hS : St B O 4 w (w1.setCell ⟨O, 0, none⟩ (.slice (some ⟨g, 0, none⟩) 1 cap)) v n xs := st_start hv hBO hO hgrow1 hown1
  have b1 : w1.heap[O]? = (w.alloc (.cells #[.int .i64 4] 3)).heap[O]? := hgrow1.block O (by simp; omega) (by simp [Value.ownBlock])
  have c1 : w1.cell? ⟨O, 0, none⟩ = some (.slice none 0 0) := by
    rw [World.cell?_of_block (a := ⟨O, 0, none⟩) b1, World.cell?_alloc_past _ _ _ hl]; exact c0
  have f1 : w1.frozen? ⟨O, 0, none⟩ = false := by
    rw [World.frozen?_of_block (a := ⟨O, 0, none⟩) b1, World.frozen?_alloc_past _ _ _ hl]; exact f0
  clear hown1 hgrow1 b1 c0 f0 hv hO
  go_wp2
  go_loopw [1, 7] (fun v i wr => ∃ k : Nat, k ≤ 4 ∧ i = .int .i64 k ∧ St B O 4 w wr v (n + k) (xs ++ le N k)) (fun _ i _ => 4 - (intOf i).toNat)
  case atStart => exact ⟨0, by omega, rfl, by simpa [le] using hS⟩
  case round =>
    clear hS c1 f1
    obtain ⟨k, hk, rfl, hS⟩ := hrel
    have hown := hS.own
    have hsz := hS.bel.size
    by_cases hlt : k < 4
    · go_wp2_with (at_builtin; refine wpList_append_bytes rfl _ _ 22 rfl B 5 i0 (.int .u8 0) 1 Ybaf.underlying22 hi hz0 hz1 hz2 rfl _ _ _ rfl (hown.alloc _) (some ⟨wr.heap.size, 0, none⟩) 1 1 [(N : Int) / 2 ^ (8 * k) % 256] rfl (fun h => by cases h) (bytes_one wr _) (by unfold maxLen; omega) (by omega) ?c5 ?_)
      case c5 => simp; omega
      intro v' w2 hown2 hgrow2
      have R : St B O 4 w w2 v' (n + k + 1) (xs ++ le N k ++ [byteAt N k]) := hS.append (by omega) hgrow2 (by rw [List.map_append, List.append_assoc]; exact hown2)
      rw [List.append_assoc, ← le_succ] at R
      clear hown2 hgrow2 hS hown
      go_wp2
      go_roundw
      case rel => exact ⟨k + 1, by omega, by go_num, R⟩
      case measure => simp [intOf]; omega
    · obtain rfl : k = 4 := by omega
      obtain ⟨ao, cp, hv⟩ := own_form hown
      rw [hv] at hS ⊢
      go_wp2
      go_ret
      exact ⟨ao, cp, rfl, hS⟩

set_option maxHeartbeats 400000 in
theorem own64 (B O : Nat) (v : Value) (n : Nat) (xs : List Int) (N : Nat) (w : World) (hv : w.ownsRow B 5 1 v n (xs.map (Value.int .u8))) (hn : n ≤ 100000) (hBO : B ≤ O) (hO : Log0 w O) :
    Calls Ybaf.prog 32 #[.pointer (some ⟨O, 0, none⟩), v, .int .u64 N] w fun e w' => ∃ ao cap, e = .returned (.slice ao (n + 8) cap) ∧ St B O 8 w w' (.slice ao (n + 8) cap) (n + 8) (xs ++ le N 8) := by
  obtain ⟨i0, hi, hz0, hz1, hz2⟩ := info_parts Ybaf.info5
  obtain ⟨i1, hi1, hy0, hy1, hy2⟩ := info_parts Ybaf.info3
  have hO' : w.heap[O]? = some (.cells #[.slice none 0 0] 26 (0, 0)) := hO
  have c0 : w.cell? ⟨O, 0, none⟩ = some (.slice none 0 0) := by simp [World.cell?, hO']
  have f0 : w.frozen? ⟨O, 0, none⟩ = false := by simp [World.frozen?, hO']
  have hl : O < w.heap.size := (Array.getElem?_eq_some_iff.1 hO').1
  clear hO'
  go_enter Ybaf.func32, Ybaf.ntmps32
  go_wp2_with (at_builtin; refine wpList_append_lies _ rfl _ _ 24 rfl B 3 i1 (.int .i64 0) 1 8 Ybaf.underlying24 hi1 hy0 hy1 hy2 rfl (by decide) (.slice none 0 0) 0 [] rfl (World.ownsRow_nil _ _ _ _) ⟨w.heap.size, 0, none⟩ 1 1 [.int .i64 8] rfl rfl (cell_one_new _ _ _) ?c2 (by decide) ?c3 ?c4 ?c5 (w.heap.size + 1) (by simp) ?_)
  case c2 => intro u hu; simp at hu; subst hu; rfl
  case c3 => unfold maxLen; omega
  case c4 => omega
  case c5 => simp; omega
  intro g cap w1 hown1 hgrow1 _ _
  have hS : St B O 8 w (w1.setCell ⟨O, 0, none⟩ (.slice (some ⟨g, 0, none⟩) 1 cap)) v n xs := st_start hv hBO hO hgrow1 hown1
  have b1 : w1.heap[O]? = (w.alloc (.cells #[.int .i64 8] 3)).heap[O]? := hgrow1.block O (by simp; omega) (by simp [Value.ownBlock])
  have c1 : w1.cell? ⟨O, 0, none⟩ = some (.slice none 0 0) := by
    rw [World.cell?_of_block (a := ⟨O, 0, none⟩) b1, World.cell?_alloc_past _ _ _ hl]; exact c0
  have f1 : w1.frozen? ⟨O, 0, none⟩ = false := by
    rw [World.frozen?_of_block (a := ⟨O, 0, none⟩) b1, World.frozen?_alloc_past _ _ _ hl]; exact f0
  clear hown1 hgrow1 b1 c0 f0 hv hO
  go_wp2
  go_loopw [1, 7] (fun v i wr => ∃ k : Nat, k ≤ 8 ∧ i = .int .i64 k ∧ St B O 8 w wr v (n + k) (xs ++ le N k)) (fun _ i _ => 8 - (intOf i).toNat)
  case atStart => exact ⟨0, by omega, rfl, by simpa [le] using hS⟩
  case round =>
    clear hS c1 f1
    obtain ⟨k, hk, rfl, hS⟩ := hrel
    have hown := hS.own
    have hsz := hS.bel.size
    by_cases hlt : k < 8
    · go_wp2_with (at_builtin; refine wpList_append_bytes rfl _ _ 22 rfl B 5 i0 (.int .u8 0) 1 Ybaf.underlying22 hi hz0 hz1 hz2 rfl _ _ _ rfl (hown.alloc _) (some ⟨wr.heap.size, 0, none⟩) 1 1 [(N : Int) / 2 ^ (8 * k) % 256] rfl (fun h => by cases h) (bytes_one wr _) (by unfold maxLen; omega) (by omega) ?c5 ?_)
      case c5 => simp; omega
      intro v' w2 hown2 hgrow2
      have R : St B O 8 w w2 v' (n + k + 1) (xs ++ le N k ++ [byteAt N k]) := hS.append (by omega) hgrow2 (by rw [List.map_append, List.append_assoc]; exact hown2)
      rw [List.append_assoc, ← le_succ] at R
      clear hown2 hgrow2 hS hown
      go_wp2
      go_roundw
      case rel => exact ⟨k + 1, by omega, by go_num, R⟩
      case measure => simp [intOf]; omega
    · obtain rfl : k = 8 := by omega
      obtain ⟨ao, cp, hv⟩ := own_form hown
      rw [hv] at hS ⊢
      go_wp2
      go_ret
      exact ⟨ao, cp, rfl, hS⟩

end Go.Proofs.YbulkaepuFmt
