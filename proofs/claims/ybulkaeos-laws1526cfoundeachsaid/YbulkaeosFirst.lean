/-
  The walk over 'LawS1526CFirstMatch' (function 3).
-/
import Derived.Test.YbulkaeosPolicy
import Derived.LaidEqlPtr
import Derived.BigQuiet
import Derived.Deep.QuietTactic
namespace Go.Proofs.Ybulkaeos
open Go.RowKit

theorem Yba.info39 : (Yba.prog.info? 39).map (fun i => i.size) = some 3 := by kernel_rfl

/-- '!=' between a pointer to an SP payload and itself. -/
theorem neq_same (a : Addr) (w : World) : (binOp .neq 35 (.pointer (some a)) (.pointer (some a))).run Yba.prog w = .ok (.bool false) w := by
  obtain ⟨i, hi, _⟩ := Option.map_eq_some_iff.1 Yba.info39
  have h : ∀ d : Nat, (Op.equalIn (d + 1) 35 (.pointer (some a)) (.pointer (some a))).run Yba.prog w = .ok true w := fun d => by
    simp [Op.equalIn, run_underlying Yba.underlying35, sizeOf, typeInfo, hi, run_sameAddr_same]
  simp only [binOp]
  simp [Op.equal, Op.maxDepth, h 9999]

/-- The message that both laws make. -/
def msgObj (B n : Nat) : Obj := .cells #[.int .u8 0, .int .u8 0, .bool false, .int .u8 0, .int .u32 0, .int .u8 0, .slice none 0 0, .slice (some ⟨B, 0, none⟩) n n] 34

/-- WHAT STANDS BEHIND 'm.policy(..)', in whatever world comes behind it: the row of pointers, each SP's number, the message's payloads. -/
structure Stands (w1 w2 : World) (B n : Nat) (Q : Nat → Int) (PT : Nat → Option Addr) : Prop where
  row : ∀ j, j < n → w2.cell? ⟨B + 1, j, none⟩ = some (.pointer (PT j))
  each : ∀ j, j < n → (PT j = none ∨ ∃ b, PT j = some ⟨b, 0, none⟩ ∧ Boxed w2 b (Q j))
  msg : w2.cell? ⟨w1.heap.size, 7, none⟩ = some (.slice (some ⟨B, 0, none⟩) n n)

theorem stands_of {w1 w2 : World} {B n : Nat} {Q : Nat → Int} {PV : Nat → Value} {PT : Nat → Option Addr} (hS : w1.rowIs (B + 1) 35 n (fun j => .pointer (PT j))) (hE : ∀ j, j < n → Elem w1 B Q PV PT j)
    (hb : Below (w1.alloc (msgObj B n)).heap.size (w1.alloc (msgObj B n)) w2) : Stands w1 w2 B n Q PT := by
  have hsz : (w1.alloc (msgObj B n)).heap.size = w1.heap.size + 1 := by simp
  refine ⟨fun j hj => ?_, fun j hj => ?_, ?_⟩
  · rw [hb.cell (p := ⟨B + 1, j, none⟩) (by rw [hsz]; have := hS.lt; show B + 1 < _; omega)]
    exact (hS.alloc _).cell hj
  · rcases hE j hj with ⟨b, _, e1, _, e3⟩ | ⟨e1, _⟩
    · refine Or.inr ⟨b, e1, ?_⟩
      exact (e3.alloc _).keep (hb.block b (by rw [hsz]; have := e3.lt; omega))
    · exact Or.inl e1
  · rw [hb.cell (p := ⟨w1.heap.size, 7, none⟩) (by rw [hsz]; show w1.heap.size < _; omega)]
    unfold msgObj
    rw [World.cell?_alloc_at _ _ _ _ rfl]
    rfl

set_option maxHeartbeats 400000 in
theorem first_some (b off n cap : Nat) (K Q : Nat → Int) (x : Int) (w : World) (hn : n ≤ 1024) (hb : b < w.heap.size)
    (hK : ∀ j, j < n → w.cell? ⟨b, off + j * 2, none⟩ = some (.int .u8 (K j)) ∧ w.cell? ⟨b, off + j * 2 + 1, none⟩ = some (.int .u8 (Q j)))
    (hKb : ∀ j, j < n → 0 ≤ K j ∧ K j ≤ 255) :
    Calls Yba.prog 3 #[.slice (some ⟨b, off, none⟩) n cap, .int .u8 x] w fun e w' => e = .returned (.bool true) ∧ Below w.heap.size w w' := by
  have hd : decide (1024 < (n : Int)) = false := by simp; omega
  have hns := neq_same
  go_enter Yba.func3, Yba.ntmps3
  go_wp2_with (go_at_call 5; refine (build_some b off n cap K Q _ hn hb hK hKb).mono ?_)
  rintro e w1 ⟨rfl, PV, PT, hP, hS, hE, _, hbel⟩
  have HH : Hid (w1.rowIs w.heap.size 45 n PV ∧ w1.rowIs (w.heap.size + 1) 35 n (fun j => .pointer (PT j)) ∧ (∀ j, j < n → Elem w1 w.heap.size Q PV PT j) ∧ Below w.heap.size w w1) := ⟨hP, hS, hE, hbel⟩
  have HK : Hid (∀ j, j < n → w.cell? ⟨b, off + j * 2 + 1, none⟩ = some (.int .u8 (Q j))) := fun j hj => (hK j hj).2
  clear hP hS hE hbel hK hKb
  go_wp2_with fail
  refine (policy_any w1.heap.size w.heap.size n Q PV PT x _ hn ?hm (HH.out.1.alloc _) (fun j hj => (HH.out.2.2.1 j hj).alloc _)).mono ?_
  case hm => rw [World.cell?_alloc_at _ _ _ _ rfl]; rfl
  rintro e w2 ⟨rfl, hbel2⟩
  have HS : Hid (Stands w1 w2 w.heap.size n Q PT) := stands_of HH.out.2.1 HH.out.2.2.1 hbel2
  have hsz : w.heap.size ≤ w1.heap.size := HH.out.2.2.2.size
  have hB2 : Below w.heap.size w w2 := (HH.out.2.2.2.alloc hsz _).trans (hbel2.mono (by simp; omega))
  have HI : Hid (∀ j, j < n → w2.cell? ⟨b, off + j * 2 + 1, none⟩ = some (.int .u8 (Q j))) := fun j hj => by
    rw [hB2.cell (p := ⟨b, off + j * 2 + 1, none⟩) hb]; exact HK.out j hj
  have hmsg := HS.out.msg
  clear hbel2 HH HK
  go_wp2
  go_loop [9, 10] (fun wt i => ∃ k : Nat, k ≤ n ∧ i = .int .i64 k ∧ wt = .pointer none ∧ ∀ j, j < k → ((PT j).isSome && Q j == x) = false) (fun _ i => n - (intOf i).toNat)
  case atStart => exact ⟨0, Nat.zero_le _, rfl, rfl, fun j hj => absurd hj (Nat.not_lt_zero _)⟩
  case round =>
    obtain ⟨k, hk, rfl, rfl, hno⟩ := hrel
    have HN : Hid (∀ j, j < k → ((PT j).isSome && Q j == x) = false) := hno
    clear hno
    by_cases hlt : k < n
    · have c0 := HS.out.row k hlt
      rcases HS.out.each k hlt with e1 | ⟨bb, e1, c1'⟩
      · have HE : Hid (PT k = none) := e1
        rw [e1] at c0
        clear e1
        go_wp2
        go_round
        case rel =>
          refine ⟨k + 1, by omega, by go_num, rfl, fun j hj => ?_⟩
          by_cases e : j = k
          · subst e; rw [HE.out]; rfl
          · exact HN.out j (by omega)
        case measure => simp [intOf]; omega
      · have HE : Hid (PT k = some ⟨bb, 0, none⟩) := e1
        have c1 := c1'.cell
        rw [e1] at c0
        clear e1
        by_cases hx : Q k = x
        · have hfa : firstAt PT Q x n = some ⟨bb, 0, none⟩ := by rw [firstAt_hit hlt HN.out (by rw [HE.out, hx]; simp), HE.out]
          go_wp2
          go_loopw [11] (fun i wr => ∃ m : Nat, m ≤ n ∧ i = .int .i64 m ∧ ∃ d, wr = w2.drewN d) (fun i _ => n - (intOf i).toNat)
          case atStart => exact ⟨0, Nat.zero_le _, rfl, 0, rfl⟩
          case round =>
            obtain ⟨m, hm, rfl, d, rfl⟩ := hrel
            by_cases hmn : m < n
            · have c2 := HS.out.row m hmn
              have c3 := HI.out m hmn
              rcases HS.out.each m hmn with e2 | ⟨b2, e2, c4'⟩
              · rw [e2] at c2
                clear e2
                go_wp2
                go_quiet (fail)
                go_wp2
                go_roundw
                case rel => exact ⟨m + 1, by omega, by go_num, _, rfl⟩
                case measure => simp [intOf]; omega
              · have c4 := c4'.cell
                rw [e2] at c2
                clear e2
                go_wp2
                go_quiet (fail)
                go_wp2
                go_roundw
                case rel => exact ⟨m + 1, by omega, by go_num, _, rfl⟩
                case measure => simp [intOf]; omega
            · go_wp2
              go_ret
              exact ⟨rfl, below_drewN hB2 d⟩
        · go_wp2
          go_round
          case rel =>
            refine ⟨k + 1, by omega, by go_num, rfl, fun j hj => ?_⟩
            by_cases e : j = k
            · subst e; simp [hx]
            · exact HN.out j (by omega)
          case measure => simp [intOf]; omega
    · have hfa : firstAt PT Q x n = none := firstAt_none (fun j hj => HN.out j (by omega))
      go_wp2
      go_loopw [11] (fun i wr => ∃ m : Nat, m ≤ n ∧ i = .int .i64 m ∧ ∃ d, wr = w2.drewN d) (fun i _ => n - (intOf i).toNat)
      case atStart => exact ⟨0, Nat.zero_le _, rfl, 0, rfl⟩
      case round =>
        obtain ⟨m, hm, rfl, d, rfl⟩ := hrel
        by_cases hmn : m < n
        · have c2 := HS.out.row m hmn
          have c3 := HI.out m hmn
          rcases HS.out.each m hmn with e2 | ⟨b2, e2, c4'⟩
          · rw [e2] at c2
            clear e2
            go_wp2
            go_quiet (fail)
            go_wp2
            go_roundw
            case rel => exact ⟨m + 1, by omega, by go_num, _, rfl⟩
            case measure => simp [intOf]; omega
          · have c4 := c4'.cell
            rw [e2] at c2
            clear e2
            go_wp2
            go_quiet (fail)
            go_wp2
            go_roundw
            case rel => exact ⟨m + 1, by omega, by go_num, _, rfl⟩
            case measure => simp [intOf]; omega
        · go_wp2
          go_ret
          exact ⟨rfl, below_drewN hB2 d⟩

/-- .. over a slice without elements. -/
theorem first_none (a0 : Option Addr) (cap : Nat) (x : Int) (w : World) :
    Calls Yba.prog 3 #[.slice a0 0 cap, .int .u8 x] w fun e w' => e = .returned (.bool true) ∧ Below w.heap.size w w' := by
  go_enter Yba.func3, Yba.ntmps3
  go_wp2_with (go_at_call 5; refine (build_none a0 cap (fun _ => 0) _).mono ?_)
  rintro e w1 ⟨rfl, PV, PT, hP, hS, hE, _, hbel⟩
  have HH : Hid (w1.rowIs w.heap.size 45 0 PV ∧ Below w.heap.size w w1) := ⟨hP, hbel⟩
  clear hP hS hE hbel
  go_wp2_with fail
  refine (policy_any w1.heap.size w.heap.size 0 (fun _ => 0) PV PT x _ (by omega) ?hm (HH.out.1.alloc _) (fun j hj => absurd hj (Nat.not_lt_zero _))).mono ?_
  case hm => rw [World.cell?_alloc_at _ _ _ _ rfl]; rfl
  rintro e w2 ⟨rfl, hbel2⟩
  have hsz : w.heap.size ≤ w1.heap.size := HH.out.2.size
  have hB2 : Below w.heap.size w w2 := (HH.out.2.alloc hsz _).trans (hbel2.mono (by simp; omega))
  have hmsg : w2.cell? ⟨w1.heap.size, 7, none⟩ = some (.slice (some ⟨w.heap.size, 0, none⟩) 0 0) := by
    rw [hbel2.cell (p := ⟨w1.heap.size, 7, none⟩) (by simp), World.cell?_alloc_at _ _ _ _ rfl]; rfl
  have hfa : firstAt PT (fun _ => 0) x 0 = none := rfl
  clear hbel2 HH
  go_wp2
  go_rounds 1
  go_rounds 1
  go_ret
  exact ⟨rfl, hB2⟩

/-- .. over a slice that is too long for the law to look at. -/
theorem first_long (a0 : Option Addr) (n cap : Nat) (x : Int) (w : World) (hn : 1024 < n) :
    Calls Yba.prog 3 #[.slice a0 n cap, .int .u8 x] w fun e w' => e = .returned (.bool true) ∧ Below w.heap.size w w' := by
  go_enter Yba.func3, Yba.ntmps3
  go_wp2
  go_ret
  exact ⟨rfl, Below.refl _ _⟩

end Go.Proofs.Ybulkaeos
