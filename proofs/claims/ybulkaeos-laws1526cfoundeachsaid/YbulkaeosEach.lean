/-
  The walk over 'LawS1526CFoundEach' (function 4).
-/
import Derived.Test.YbulkaeosFirst
namespace Go.Proofs.Ybulkaeos
open Go.RowKit

/-- '==' between a pointer to an SP payload and itself. -/
theorem eql_same (a : Addr) (w : World) : (binOp .eql 35 (.pointer (some a)) (.pointer (some a))).run Yba.prog w = .ok (.bool true) w := by
  obtain ⟨i, hi, _⟩ := Option.map_eq_some_iff.1 Yba.info39
  exact run_eql_ptr_same w a Yba.underlying35 hi

/-- nil '==' such a pointer. -/
theorem eql_nil_left (a : Addr) (w : World) : (binOp .eql 35 (.pointer none) (.pointer (some a))).run Yba.prog w = .ok (.bool false) w := by
  have h : ∀ d : Nat, (Op.equalIn (d + 1) 35 (.pointer none) (.pointer (some a))).run Yba.prog w = .ok false w := fun d => by
    simp [Op.equalIn, run_underlying Yba.underlying35]
  simp only [binOp]
  simp [Op.equal, Op.maxDepth, h 9999]

/-- '==' between two such pointers that are not one. -/
theorem eql_other {w : World} {b b' : Nat} {q q' : Int} (hb : Boxed w b q) (hb' : Boxed w b' q') (hne : b ≠ b') (d : Nat) :
    (binOp .eql 35 (.pointer (some ⟨b, 0, none⟩)) (.pointer (some ⟨b', 0, none⟩))).run Yba.prog (w.drewN d) = .ok (.bool false) (w.drewN d) := by
  obtain ⟨i, hi, hs⟩ := Option.map_eq_some_iff.1 Yba.info39
  obtain ⟨c, h1, _⟩ := hb
  obtain ⟨c', h1', _⟩ := hb'
  exact run_eql_ptr_other (w.drewN d) Yba.underlying35 hi (by omega) (fun e => hne (congrArg Addr.block e)) h1 h1'

/-- WHAT STANDS AT EVERY ROUND's HEAD: the two rows, the boxes, the message (its block: M). -/
structure Full (wr : World) (M B n : Nat) (Q : Nat → Int) (PV : Nat → Value) (PT : Nat → Option Addr) : Prop where
  ps : wr.rowIs B 45 n PV
  sps : wr.rowIs (B + 1) 35 n (fun j => .pointer (PT j))
  elem : ∀ j, j < n → Elem wr B Q PV PT j
  msg : wr.cell? ⟨M, 7, none⟩ = some (.slice (some ⟨B, 0, none⟩) n n)

theorem Full.below {wr wr' : World} {M B n : Nat} {Q : Nat → Int} {PV : Nat → Value} {PT : Nat → Option Addr} (h : Full wr M B n Q PV PT) (hb : Below wr.heap.size wr wr') : Full wr' M B n Q PV PT :=
  ⟨h.ps.of_block (hb.block _ h.ps.lt), h.sps.of_block (hb.block _ h.sps.lt), fun j hj => (h.elem j hj).keep rfl rfl (fun b _ _ hc => hc.keep (hb.block b hc.lt)),
    by rw [hb.cell (p := ⟨M, 7, none⟩) (World.block_lt_of_cell? wr _ h.msg)]; exact h.msg⟩

theorem Full.box {wr : World} {M B n : Nat} {Q : Nat → Int} {PV : Nat → Value} {PT : Nat → Option Addr} (h : Full wr M B n Q PV PT) (j : Nat) (hj : j < n) : PT j = none ∨ ∃ b, PT j = some ⟨b, 0, none⟩ ∧ Boxed wr b (Q j) := by
  rcases h.elem j hj with ⟨b, _, e1, _, e3⟩ | ⟨e1, _⟩
  · exact Or.inr ⟨b, e1, e3⟩
  · exact Or.inl e1

/-- Asking for a payload's own number finds one at or before it. -/
theorem firstAt_self {PT : Nat → Option Addr} {Q : Nat → Int} {n k : Nat} (hk : k < n) {a : Addr} (h : PT k = some a) : ∃ j, j ≤ k ∧ firstAt PT Q (Q k) n = PT j ∧ (PT j).isSome = true ∧ Q j = Q k := by
  have key : ∀ m, m ≤ k → (∀ j, j < m → ((PT j).isSome && Q j == Q k) = false) ∨ ∃ j, j ≤ k ∧ (∀ i, i < j → ((PT i).isSome && Q i == Q k) = false) ∧ ((PT j).isSome && Q j == Q k) = true := by
    intro m
    induction m with
    | zero => intro _; exact Or.inl fun j hj => absurd hj (Nat.not_lt_zero _)
    | succ m ih =>
      intro hm
      rcases ih (by omega) with h1 | h2
      · cases hc : ((PT m).isSome && Q m == Q k) with
        | true => exact Or.inr ⟨m, by omega, h1, hc⟩
        | false =>
          refine Or.inl fun j hj => ?_
          by_cases e : j = m
          · subst e; exact hc
          · exact h1 j (by omega)
      · exact Or.inr h2
  rcases key k (Nat.le_refl _) with h1 | ⟨j, hj, h1, h2⟩
  · exact ⟨k, Nat.le_refl _, firstAt_hit hk h1 (by simp [h]), by simp [h], rfl⟩
  · refine ⟨j, hj, firstAt_hit (by omega) h1 h2, ?_, ?_⟩
    · simp only [Bool.and_eq_true] at h2; exact h2.1
    · simp only [Bool.and_eq_true, beq_iff_eq] at h2; exact h2.2

set_option maxHeartbeats 800000 in
theorem each_some (b off n cap : Nat) (K Q : Nat → Int) (w : World) (hn : n ≤ 256) (hb : b < w.heap.size)
    (hK : ∀ j, j < n → w.cell? ⟨b, off + j * 2, none⟩ = some (.int .u8 (K j)) ∧ w.cell? ⟨b, off + j * 2 + 1, none⟩ = some (.int .u8 (Q j)))
    (hKb : ∀ j, j < n → 0 ≤ K j ∧ K j ≤ 255) :
    Calls Yba.prog 4 #[.slice (some ⟨b, off, none⟩) n cap] w fun e w' => e = .returned (.bool true) ∧ Below w.heap.size w w' := by
  have hd : decide (256 < (n : Int)) = false := by simp; omega
  go_enter Yba.func4, Yba.ntmps4
  go_wp2_with (go_at_call 5; refine (build_some b off n cap K Q _ (by omega) hb hK hKb).mono ?_)
  rintro e w1 ⟨rfl, PV, PT, hP, hS, hE, _, hbel⟩
  have hsz : w.heap.size ≤ w1.heap.size := hbel.size
  have hB1 : Below w.heap.size w (w1.alloc (msgObj w.heap.size n)) := hbel.alloc hsz _
  have HF : Hid (Full (w1.alloc (msgObj w.heap.size n)) w1.heap.size w.heap.size n Q PV PT) :=
    ⟨hP.alloc _, hS.alloc _, fun j hj => (hE j hj).alloc _, by unfold msgObj; rw [World.cell?_alloc_at _ _ _ _ rfl]; rfl⟩
  clear hP hS hE hbel hK hKb
  unfold msgObj at hB1 HF
  go_wp2
  go_loopw [6] (fun i wr => ∃ k : Nat, k ≤ n ∧ i = .int .i64 k ∧ Full wr w1.heap.size w.heap.size n Q PV PT ∧ Below w.heap.size w wr) (fun i _ => n - (intOf i).toNat)
  case atStart => exact ⟨0, Nat.zero_le _, rfl, HF, hB1⟩
  case round =>
    clear HF hB1
    obtain ⟨k, hk, rfl, hF, hbel⟩ := hrel
    have HF : Hid (Full wr w1.heap.size w.heap.size n Q PV PT) := hF
    clear hF
    by_cases hlt : k < n
    · have c0 := HF.out.sps.cell hlt
      rcases HF.out.box k hlt with e1 | ⟨bb, e1, hbx⟩
      · rw [e1] at c0
        clear e1
        go_wp2
        go_roundw
        case rel => exact ⟨k + 1, by omega, by go_num, HF.out, hbel⟩
        case measure => simp [intOf]; omega
      · have HE : Hid (PT k = some ⟨bb, 0, none⟩) := e1
        have c1 := hbx.cell
        rw [e1] at c0
        obtain ⟨j0, hj0, f1, f2, f3⟩ := firstAt_self (Q := Q) hlt e1
        have HX : Hid (firstAt PT Q (Q k) n = PT j0 ∧ (PT j0).isSome = true ∧ Q j0 = Q k) := ⟨f1, f2, f3⟩
        clear e1 f1 f2 f3
        go_wp2_with fail
        refine (policy_any w1.heap.size w.heap.size n Q PV PT (Q k) _ (by omega) HF.out.msg HF.out.ps HF.out.elem).mono ?_
        rintro e w2 ⟨rfl, hbel2⟩
        obtain ⟨b0, e2, hbx2⟩ : ∃ b0, PT j0 = some ⟨b0, 0, none⟩ ∧ Boxed wr b0 (Q k) := by
          rcases HF.out.box j0 (by omega) with e | ⟨b0, e, hx⟩
          · have := HX.out.2.1; rw [e] at this; cases this
          · exact ⟨b0, e, by rw [← HX.out.2.2]; exact hx⟩
        have hfa : firstAt PT Q (Q k) n = some ⟨b0, 0, none⟩ := by rw [HX.out.1, e2]
        have HJ : Hid (PT j0 = some ⟨b0, 0, none⟩) := e2
        clear e2
        have HF2 : Hid (Full w2 w1.heap.size w.heap.size n Q PV PT) := HF.out.below hbel2
        have hbx3 : Boxed w2 b0 (Q k) := hbx2.keep (hbel2.block _ hbx2.lt)
        have hbx4 : Boxed w2 bb (Q k) := hbx.keep (hbel2.block _ hbx.lt)
        have hB3 : Below w.heap.size w w2 := hbel.trans (hbel2.mono hbel.size)
        have c2 := HF2.out.sps.cell hlt
        simp only [HE.out] at c2
        have c3 := hbx3.cell
        have c4 := hbx4.cell
        clear hbel hbel2 hbx hbx2 c0 c1 HF
        rw [hfa]
        clear hfa
        go_wp2
        go_quiet (fail)
        go_wp2
        go_loop [8, 9] (fun at' j => ∃ m : Nat, m ≤ j0 ∧ j = .int .i64 m ∧ at' = .int .i64 (-1)) (fun _ j => n - (intOf j).toNat)
        case atStart => exact ⟨0, Nat.zero_le _, rfl, rfl⟩
        case round =>
          obtain ⟨m, hm, rfl, rfl⟩ := hrel
          have c5 := HF2.out.sps.cell (show m < n by omega)
          have es := eql_same
          have en := eql_nil_left
          rcases HF2.out.box m (by omega) with e3 | ⟨bm, e3, hbm⟩
          · simp only [e3] at c5
            have hne : m ≠ j0 := by rintro rfl; rw [HJ.out] at e3; cases e3
            clear e3
            go_wp2
            go_round
            case rel => exact ⟨m + 1, by omega, by go_num, rfl⟩
            case measure => simp [intOf]; omega
          · simp only [e3] at c5
            by_cases hbb : bm = b0
            · subst hbb
              clear e3 hbm
              go_wp2
              go_roundw
              case rel => exact ⟨k + 1, by omega, by go_num, HF2.out.below (below_drewN (Below.refl _ _) _), below_drewN hB3 _⟩
              case measure => simp [intOf]; omega
            · have hne : m ≠ j0 := by
                rintro rfl
                rw [HJ.out] at e3
                exact hbb (congrArg Addr.block (Option.some.inj e3)).symm
              have eo := eql_other hbm hbx3 hbb
              clear e3
              go_wp2
              go_round
              case rel => exact ⟨m + 1, by omega, by go_num, rfl⟩
              case measure => simp [intOf]; omega
    · go_wp2
      go_ret
      exact ⟨rfl, hbel⟩

/-- .. over a slice without elements. -/
theorem each_none (a0 : Option Addr) (cap : Nat) (w : World) :
    Calls Yba.prog 4 #[.slice a0 0 cap] w fun e w' => e = .returned (.bool true) ∧ Below w.heap.size w w' := by
  go_enter Yba.func4, Yba.ntmps4
  go_wp2_with (go_at_call 5; refine (build_none a0 cap (fun _ => 0) _).mono ?_)
  rintro e w1 ⟨rfl, PV, PT, hP, hS, hE, _, hbel⟩
  have hB1 : Below w.heap.size w (w1.alloc (msgObj w.heap.size 0)) := hbel.alloc hbel.size _
  clear hP hS hE hbel
  unfold msgObj at hB1
  go_wp2
  go_rounds 1
  go_ret
  exact ⟨rfl, hB1⟩

/-- .. over a slice that is too long for the law to look at. -/
theorem each_long (a0 : Option Addr) (n cap : Nat) (w : World) (hn : 256 < n) :
    Calls Yba.prog 4 #[.slice a0 n cap] w fun e w' => e = .returned (.bool true) ∧ Below w.heap.size w w' := by
  go_enter Yba.func4, Yba.ntmps4
  go_wp2
  go_ret
  exact ⟨rfl, Below.refl _ _⟩

end Go.Proofs.Ybulkaeos
