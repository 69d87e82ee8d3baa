/-
  The walks over 'payloadsOf[*SecurityPolicy]' (function 7) and '(*Message).policy' (function 6).
-/
import Derived.Test.YbulkaeosBuild
namespace Go.Proofs.Ybulkaeos
open Go.RowKit

theorem assert_sp (a : Option Addr) (w : World) : (Instr.typeAssert (.iface 35 (.pointer a)) 45 35 true).run Yba.prog w = .ok (.tuple #[.pointer a, .bool true]) w := by kernel_rfl
theorem assert_nil (w : World) : (Instr.typeAssert .nilIface 45 35 true).run Yba.prog w = .ok (.tuple #[.pointer none, .bool false]) w := by kernel_rfl
theorem assert_rand (a : Option Addr) (w : World) : (Instr.typeAssert (.iface 46 (.pointer a)) 45 35 true).run Yba.prog w = .ok (.tuple #[.pointer none, .bool false]) w := by kernel_rfl
theorem assert_t (a : Option Addr) (w : World) : (Instr.typeAssert (.iface 50 (.pointer a)) 45 35 true).run Yba.prog w = .ok (.tuple #[.pointer none, .bool false]) w := by kernel_rfl

/-- The SP payloads among the first k places, in their order: where each lies, and its policy number. -/
def sel (PT : Nat → Option Addr) (Q : Nat → Int) (k : Nat) : List (Addr × Int) := (List.range k).filterMap fun j => (PT j).map fun a => (a, Q j)

/-- An SP payload as a value. -/
def ptr (p : Addr × Int) : Value := .pointer (some p.1)

theorem sel_succ_some {PT : Nat → Option Addr} {Q : Nat → Int} {k : Nat} {a : Addr} (h : PT k = some a) : sel PT Q (k + 1) = sel PT Q k ++ [(a, Q k)] := by
  simp [sel, List.range_succ, List.filterMap_append, h]
theorem sel_succ_none {PT : Nat → Option Addr} {Q : Nat → Int} {k : Nat} (h : PT k = none) : sel PT Q (k + 1) = sel PT Q k := by
  simp [sel, List.range_succ, List.filterMap_append, h]
theorem sel_le (PT : Nat → Option Addr) (Q : Nat → Int) (k : Nat) : (sel PT Q k).length ≤ k := by
  have := List.length_filterMap_le (fun j => (PT j).map fun a => (a, Q j)) (List.range k)
  simpa [sel] using this
theorem sel_mem {PT : Nat → Option Addr} {Q : Nat → Int} {k : Nat} {p : Addr × Int} (h : p ∈ sel PT Q k) : ∃ j, j < k ∧ PT j = some p.1 ∧ Q j = p.2 := by
  simp only [sel, List.mem_filterMap, List.mem_range, Option.map_eq_some_iff] at h
  obtain ⟨j, hj, a, ha, rfl⟩ := h
  exact ⟨j, hj, ha, rfl⟩

/-- WHAT 'policy(x)' HANDS BACK: the first SP payload with the number x, or nil. -/
def firstAt (PT : Nat → Option Addr) (Q : Nat → Int) (x : Int) (n : Nat) : Option Addr := ((sel PT Q n).find? fun p => p.2 == x).map (·.1)

theorem firstAt_eq (PT : Nat → Option Addr) (Q : Nat → Int) (x : Int) (n : Nat) : firstAt PT Q x n = ((List.range n).find? fun j => (PT j).isSome && Q j == x).bind PT := by
  unfold firstAt sel
  rw [List.find?_filterMap]
  have e : (fun j => Option.any (fun p : Addr × Int => p.2 == x) ((PT j).map fun a => (a, Q j))) = fun j => (PT j).isSome && Q j == x := by
    funext j
    cases PT j <;> simp
  rw [e]
  cases (List.range n).find? fun j => (PT j).isSome && Q j == x with
  | none => rfl
  | some j => cases h : PT j <;> simp [h]

theorem firstAt_hit {PT : Nat → Option Addr} {Q : Nat → Int} {x : Int} {n i : Nat} (hi : i < n) (hno : ∀ j, j < i → ((PT j).isSome && Q j == x) = false) (hit : ((PT i).isSome && Q i == x) = true) : firstAt PT Q x n = PT i := by
  rw [firstAt_eq]
  have : (List.range n).find? (fun j => (PT j).isSome && Q j == x) = some i := by
    rw [List.find?_range_eq_some]
    exact ⟨hit, by simpa using hi, fun j hj => by rw [hno j hj]; rfl⟩
  rw [this]; rfl

theorem firstAt_none {PT : Nat → Option Addr} {Q : Nat → Int} {x : Int} {n : Nat} (hno : ∀ j, j < n → ((PT j).isSome && Q j == x) = false) : firstAt PT Q x n = none := by
  rw [firstAt_eq]
  have : (List.range n).find? (fun j => (PT j).isSome && Q j == x) = none := by
    rw [List.find?_eq_none]
    intro j hj
    rw [hno j (by simpa using hj)]; simp
  rw [this]; rfl

theorem find_hit {L : List (Addr × Int)} {x : Int} {k : Nat} (hk : k < L.length) (hno : ∀ j, j < k → (L.getD j (⟨0, 0, none⟩, 0)).2 ≠ x) (hit : (L.getD k (⟨0, 0, none⟩, 0)).2 = x) :
    (L.find? fun p => p.2 == x).map (·.1) = some (L.getD k (⟨0, 0, none⟩, 0)).1 := by
  induction L generalizing k with
  | nil => simp at hk
  | cons p L ih =>
    cases k with
    | zero => simp at hit; simp [hit]
    | succ k =>
      have h0 := hno 0 (by omega)
      simp at h0
      simp only [List.length_cons] at hk
      have := ih (k := k) (by omega) (fun j hj => by have := hno (j + 1) (by omega); simpa using this) (by simpa using hit)
      simp [h0]
      simpa using this

theorem find_none {L : List (Addr × Int)} {x : Int} (hno : ∀ j, j < L.length → (L.getD j (⟨0, 0, none⟩, 0)).2 ≠ x) : (L.find? fun p => p.2 == x).map (·.1) = none := by
  have : L.find? (fun p => p.2 == x) = none := by
    rw [List.find?_eq_none]
    intro p hp
    obtain ⟨j, hj, rfl⟩ := List.mem_iff_getElem.1 hp
    have := hno j hj
    simp [hj] at this
    simpa using this
  rw [this]; rfl

set_option maxHeartbeats 400000 in
theorem payloads_any (mb B n : Nat) (Q : Nat → Int) (PV : Nat → Value) (PT : Nat → Option Addr) (w : World) (hn : n ≤ 1024) 
    (hm : w.cell? ⟨mb, 7, none⟩ = some (.slice (some ⟨B, 0, none⟩) n n)) (hP : w.rowIs B 45 n PV) (hE : ∀ j, j < n → Elem w B Q PV PT j) :
    Calls Yba.prog 7 #[.pointer (some ⟨mb, 0, none⟩)] w fun e w' => ∃ v, e = .returned v ∧ w'.ownsRow w.heap.size 35 1 v (sel PT Q n).length ((sel PT Q n).map ptr) ∧ Below w.heap.size w w' := by
  obtain ⟨i0, hi, hz0, hz1, hz2⟩ := info_parts Yba.info35
  have hBl := hP.lt
  have t0 := assert_sp
  have t1 := assert_nil
  have t2 := assert_rand
  have t3 := assert_t
  go_enter Yba.func7, Yba.ntmps7
  go_wp2
  go_loopw [3, 13] (fun v i wr => ∃ k : Nat, k ≤ n ∧ i = .int .i64 k ∧ wr.ownsRow w.heap.size 35 1 v (sel PT Q k).length ((sel PT Q k).map ptr) ∧ Below w.heap.size w wr) (fun _ i _ => n - (intOf i).toNat)
  case atStart => exact ⟨0, Nat.zero_le _, rfl, World.ownsRow_nil _ _ _ _, Below.refl _ _⟩
  case round =>
    obtain ⟨k, hk, rfl, hown, hbel⟩ := hrel
    by_cases hlt : k < n
    · have g0 := hP.cell hlt
      rw [← hbel.cell (p := ⟨B, k, none⟩) hBl] at g0
      have hsz := hbel.size
      have hsl := sel_le PT Q k
      rcases hE k hlt with ⟨b, hb, e1, e2, e3⟩ | ⟨e1, e2⟩
      · have Hs : Hid (sel PT Q (k + 1) = sel PT Q k ++ [(⟨b, 0, none⟩, Q k)]) := sel_succ_some e1
        rw [e2] at g0
        clear e1 e2 e3 hP hE hm
        go_wp2_with (at_builtin; refine wpList_append_own _ rfl _ _ 24 rfl w.heap.size 35 i0 (.pointer none) 1 8 Yba.underlying24 hi hz0 hz1 hz2 rfl (by decide) _ _ _ rfl (hown.alloc _) ⟨wr.heap.size, 0, none⟩ 1 1 [.pointer (some ⟨b, 0, none⟩)] rfl rfl (cell_one_new _ _ _) ?c2 ?c3 ?c4 ?c5 ?_)
        case c2 => intro u hu; simp at hu; subst hu; rfl
        case c3 => unfold maxLen; omega
        case c4 => omega
        case c5 => simp; omega
        intro v' w1 hown' hgrow _
        have R : w1.ownsRow w.heap.size 35 1 v' (sel PT Q (k + 1)).length ((sel PT Q (k + 1)).map ptr) := by
          rw [Hs.out]; simpa [ptr] using hown'
        have R2 : Below w.heap.size w w1 := (hbel.alloc hsz _).grown hgrow (by simp; omega) (fun x hx => (hown.lt x hx).1)
        clear hown' hgrow hown hbel
        go_wp2
        go_roundw
        case rel => exact ⟨k + 1, by omega, by go_num, R, R2⟩
        case measure => simp [intOf]; omega
      · have Hs : Hid (sel PT Q (k + 1) = sel PT Q k) := sel_succ_none e1
        rcases e2 with e2 | ⟨a, e2⟩ | ⟨a, e2⟩
        all_goals
          rw [e2] at g0
          clear e1 e2 hP hE hm
          go_wp2
          go_roundw
          case rel => exact ⟨k + 1, by omega, by go_num, by rw [Hs.out]; exact hown, hbel⟩
          case measure => simp [intOf]; omega
    · obtain rfl : k = n := by omega
      go_wp2
      go_ret
      exact ⟨_, rfl, hown, hbel⟩

set_option maxHeartbeats 400000 in
theorem policy_any (mb B n : Nat) (Q : Nat → Int) (PV : Nat → Value) (PT : Nat → Option Addr) (x : Int) (w : World) (hn : n ≤ 1024)
    (hm : w.cell? ⟨mb, 7, none⟩ = some (.slice (some ⟨B, 0, none⟩) n n)) (hP : w.rowIs B 45 n PV) (hE : ∀ j, j < n → Elem w B Q PV PT j) :
    Calls Yba.prog 6 #[.pointer (some ⟨mb, 0, none⟩), .int .u8 x] w fun e w' => e = .returned (.pointer (firstAt PT Q x n)) ∧ Below w.heap.size w w' := by
  have hL : ∀ p ∈ sel PT Q n, ∃ b, p.1 = ⟨b, 0, none⟩ ∧ w.cell? ⟨b, 0, none⟩ = some (.int .u8 p.2) := by
    intro p hp
    obtain ⟨j, hj, h1, h2⟩ := sel_mem hp
    rcases hE j hj with ⟨b, _, e1, _, e3⟩ | ⟨e1, _⟩
    · rw [h1] at e1
      exact ⟨b, Option.some.inj e1, by rw [← h2]; exact e3.cell⟩
    · rw [h1] at e1; cases e1
  have hle := sel_le PT Q n
  have HF : Hid (firstAt PT Q x n = ((sel PT Q n).find? fun p => p.2 == x).map (·.1)) := rfl
  go_enter Yba.func6, Yba.ntmps6
  go_wp2_with (go_at_call 7; refine (payloads_any mb B n Q PV PT _ hn hm hP hE).mono ?_)
  rintro e w1 ⟨v, rfl, hown, hbel⟩
  clear hP hE hm
  rcases hown.2 with ⟨hv, h0⟩ | ⟨g, cap, cur, hv, hg, hh, hc, _, _, _⟩
  · have hnil : sel PT Q n = [] := List.length_eq_zero_iff.1 h0
    have HF2 : Hid (firstAt PT Q x n = none) := by rw [HF.out, hnil]; rfl
    clear hL hle HF hown hnil h0
    rw [hv]
    go_wp2
    go_rounds 1

    go_ret
    exact ⟨by rw [HF2.out]; rfl, hbel⟩
  · rw [hv] at hown ⊢
    clear hv
    have hcl : ∀ j, j < (sel PT Q n).length → w1.cell? ⟨g, j, none⟩ = some (.pointer (some ((sel PT Q n).getD j (⟨0, 0, none⟩, 0)).1)) := by
      intro j hj
      rw [hown.cellAt j (by omega)]
      simp [hj, ptr]
    have HC : Hid (∀ j, j < (sel PT Q n).length → w1.cell? ⟨g, j, none⟩ = some (.pointer (some ((sel PT Q n).getD j (⟨0, 0, none⟩, 0)).1))) := hcl
    have HL : Hid (∀ p ∈ sel PT Q n, ∃ b, p.1 = ⟨b, 0, none⟩ ∧ w.cell? ⟨b, 0, none⟩ = some (.int .u8 p.2)) := hL
    clear hcl hown hL hh
    go_wp2
    go_loop [10] (fun i => ∃ k : Nat, k ≤ (sel PT Q n).length ∧ i = .int .i64 k ∧ ∀ j, j < k → ((sel PT Q n).getD j (⟨0, 0, none⟩, 0)).2 ≠ x) (fun i => (sel PT Q n).length - (intOf i).toNat)
    case atStart => exact ⟨0, Nat.zero_le _, rfl, fun j hj => absurd hj (Nat.not_lt_zero _)⟩
    case round =>
      obtain ⟨k, hk, rfl, hno⟩ := hrel
      have HN : Hid (∀ j, j < k → ((sel PT Q n).getD j (⟨0, 0, none⟩, 0)).2 ≠ x) := hno
      clear hno
      by_cases hlt : k < (sel PT Q n).length
      · have c0 := HC.out k hlt
        obtain ⟨b, e1, e2⟩ := HL.out ((sel PT Q n).getD k (⟨0, 0, none⟩, 0)) (by simp [hlt])
        rw [← hbel.cell (p := ⟨b, 0, none⟩) (World.block_lt_of_cell? w _ e2)] at e2
        have HE : Hid (((sel PT Q n).getD k (⟨0, 0, none⟩, 0)).1 = ⟨b, 0, none⟩) := e1
        rw [e1] at c0
        clear e1
        obtain ⟨q, hq⟩ : ∃ q, q = ((sel PT Q n).getD k (⟨0, 0, none⟩, 0)).2 := ⟨_, rfl⟩
        rw [← hq] at e2
        have HQ : Hid (q = ((sel PT Q n).getD k (⟨0, 0, none⟩, 0)).2) := hq
        clear hq
        by_cases hx : q = x
        · subst hx
          have HR : Hid (firstAt PT Q q n = some ⟨b, 0, none⟩) := by
            have hf := find_hit hlt HN.out HQ.out.symm
            rw [HE.out] at hf
            exact hf
          go_wp2
          go_ret
          exact ⟨by rw [HR.out]; rfl, hbel⟩
        · have hx' : (q == x) = false := by simpa using hx
          go_wp2
          go_round
          case rel => 
            refine ⟨k + 1, by omega, by go_num, fun j hj => ?_⟩
            by_cases e : j = k
            · subst e; rw [← HQ.out]; exact hx
            · exact HN.out j (by omega)
          case measure => simp [intOf]; omega
      · have HR : Hid (firstAt PT Q x n = none) := find_none (fun j hj => HN.out j (by omega))
        go_wp2
        go_ret
        exact ⟨by rw [HR.out]; rfl, hbel⟩

end Go.Proofs.Ybulkaeos
