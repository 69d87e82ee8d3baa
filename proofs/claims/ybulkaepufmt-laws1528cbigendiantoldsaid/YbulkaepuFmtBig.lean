/-
  The library's big-endian order (functions 40, 41), and '(*encoder).uint' (function 12) over it.
-/
import Derived.Test.YbulkaepuFmtLawBytes
namespace Go.Proofs.YbulkaepuFmt
open Go.RowKit

theorem bytes_new (w : World) (qs : List Int) : Bytes (w.alloc (.cells (qs.map (Value.int .u8)).toArray 5)) (some ⟨w.heap.size, 0, none⟩) qs.length qs :=
  ⟨rfl, fun _ => ⟨w.heap.size, 0, rfl, fun i hi => by
    rw [World.cell?_alloc_at _ _ _ _ rfl]
    simp [hi]⟩⟩

theorem be_four (N : Nat) (h : N ≤ 2000) : be N 4 = [(N : Int) / 16777216, (N : Int) / 65536, (N : Int) / 256, (N : Int) % 256] := by
  have e : be N 4 = [byteAt N 3, byteAt N 2, byteAt N 1, byteAt N 0] := rfl
  rw [e]
  simp only [byteAt]
  rw [show ((2 : Int) ^ (8 * 0)) = 1 from rfl, show ((2 : Int) ^ (8 * 1)) = 256 from rfl, show ((2 : Int) ^ (8 * 2)) = 65536 from rfl, show ((2 : Int) ^ (8 * 3)) = 16777216 from rfl]
  refine List.cons_eq_cons.2 ⟨by omega, List.cons_eq_cons.2 ⟨by omega, List.cons_eq_cons.2 ⟨by omega, List.cons_eq_cons.2 ⟨by omega, rfl⟩⟩⟩⟩

theorem be_eight (N : Nat) (h : N ≤ 2000) : be N 8 = [(N : Int) / 72057594037927936, (N : Int) / 281474976710656, (N : Int) / 1099511627776, (N : Int) / 4294967296, (N : Int) / 16777216, (N : Int) / 65536, (N : Int) / 256, (N : Int) % 256] := by
  have e : be N 8 = [byteAt N 7, byteAt N 6, byteAt N 5, byteAt N 4, byteAt N 3, byteAt N 2, byteAt N 1, byteAt N 0] := rfl
  rw [e]
  simp only [byteAt]
  rw [show ((2 : Int) ^ (8 * 0)) = 1 from rfl, show ((2 : Int) ^ (8 * 1)) = 256 from rfl, show ((2 : Int) ^ (8 * 2)) = 65536 from rfl, show ((2 : Int) ^ (8 * 3)) = 16777216 from rfl, show ((2 : Int) ^ (8 * 4)) = 4294967296 from rfl, show ((2 : Int) ^ (8 * 5)) = 1099511627776 from rfl, show ((2 : Int) ^ (8 * 6)) = 281474976710656 from rfl, show ((2 : Int) ^ (8 * 7)) = 72057594037927936 from rfl]
  refine List.cons_eq_cons.2 ⟨by omega, List.cons_eq_cons.2 ⟨by omega, List.cons_eq_cons.2 ⟨by omega, List.cons_eq_cons.2 ⟨by omega, List.cons_eq_cons.2 ⟨by omega, List.cons_eq_cons.2 ⟨by omega, List.cons_eq_cons.2 ⟨by omega, List.cons_eq_cons.2 ⟨by omega, rfl⟩⟩⟩⟩⟩⟩⟩⟩

/-- WHAT THE ORDER LEAVES. -/
structure Put (B : Nat) (w w' : World) (v : Value) (n : Nat) (xs : List Int) : Prop where
  own : w'.ownsRow B 5 1 v n (xs.map (Value.int .u8))
  bel : Below B w w'
  same : Same5 w w'

theorem put_of {B : Nat} {w w1 : World} {v v' : Value} {n m : Nat} {xs qs : List Int} {o o' : Obj} (hv : w.ownsRow B 5 1 v n (xs.map (Value.int .u8))) (hB : B ≤ w.heap.size) (hg : ((w.alloc o).alloc o').grownBy w1 v.ownBlock)
    (hown : w1.ownsRow B 5 1 v' (n + m) (xs.map (Value.int .u8) ++ qs.map (Value.int .u8))) : Put B w w1 v' (n + m) (xs ++ qs) :=
  ⟨by rw [List.map_append]; exact hown, (((Below.refl B w).alloc hB o).alloc (by simp; omega) o').grown hg (by simp; omega) (fun k hk => (hv.lt k hk).1),
    ((Same5.alloc w o).trans (Same5.alloc _ o')).trans (Same5.append ((hv.alloc o).alloc o') hg)⟩

set_option maxHeartbeats 400000 in
theorem be32 (B : Nat) (v : Value) (n : Nat) (xs : List Int) (N : Nat) (w : World) (hv : w.ownsRow B 5 1 v n (xs.map (Value.int .u8))) (hn : n ≤ 100000) (hN : N ≤ 2000) (hB : B ≤ w.heap.size) :
    Calls Ybaf.prog 40 #[.agg #[], v, .int .u32 N] w fun e w' => ∃ ao cap, e = .returned (.slice ao (n + 4) cap) ∧ Put B w w' (.slice ao (n + 4) cap) (n + 4) (xs ++ be N 4) := by
  obtain ⟨i0, hi, hz0, hz1, hz2⟩ := info_parts Ybaf.info5
  have hbe := be_four N hN
  rw [hbe]
  clear hbe
  go_enter Ybaf.func40, Ybaf.ntmps40
  go_wp2_with (at_builtin; refine wpList_append_bytes rfl _ _ 22 rfl B 5 i0 (.int .u8 0) 1 Ybaf.underlying22 hi hz0 hz1 hz2 rfl _ _ _ rfl ((hv.alloc _).alloc _) (some ⟨w.heap.size + 1, 0, none⟩) 4 4 [(N : Int) / 16777216, (N : Int) / 65536, (N : Int) / 256, (N : Int) % 256] rfl (fun h => by cases h) ?hsrc (by unfold maxLen; omega) (by omega) ?c5 ?_)
  case hsrc =>
    have := bytes_new (w.alloc (.cells #[] 63)) [(N : Int) / 16777216, (N : Int) / 65536, (N : Int) / 256, (N : Int) % 256]
    rw [World.size_alloc] at this
    exact this
  case c5 => simp; omega
  intro v' w1 hown1 hgrow1
  have R := put_of (m := 4) (qs := [(N : Int) / 16777216, (N : Int) / 65536, (N : Int) / 256, (N : Int) % 256]) hv hB hgrow1 hown1
  obtain ⟨ao, cap, hv'⟩ := own_form hown1
  rw [hv'] at R ⊢
  clear hown1 hgrow1 hv' hv
  go_wp2
  go_ret
  exact ⟨ao, cap, rfl, R⟩

set_option maxHeartbeats 400000 in
theorem be64 (B : Nat) (v : Value) (n : Nat) (xs : List Int) (N : Nat) (w : World) (hv : w.ownsRow B 5 1 v n (xs.map (Value.int .u8))) (hn : n ≤ 100000) (hN : N ≤ 2000) (hB : B ≤ w.heap.size) :
    Calls Ybaf.prog 41 #[.agg #[], v, .int .u64 N] w fun e w' => ∃ ao cap, e = .returned (.slice ao (n + 8) cap) ∧ Put B w w' (.slice ao (n + 8) cap) (n + 8) (xs ++ be N 8) := by
  obtain ⟨i0, hi, hz0, hz1, hz2⟩ := info_parts Ybaf.info5
  have hbe := be_eight N hN
  rw [hbe]
  clear hbe
  go_enter Ybaf.func41, Ybaf.ntmps41
  go_wp2_with (at_builtin; refine wpList_append_bytes rfl _ _ 22 rfl B 5 i0 (.int .u8 0) 1 Ybaf.underlying22 hi hz0 hz1 hz2 rfl _ _ _ rfl ((hv.alloc _).alloc _) (some ⟨w.heap.size + 1, 0, none⟩) 8 8 [(N : Int) / 72057594037927936, (N : Int) / 281474976710656, (N : Int) / 1099511627776, (N : Int) / 4294967296, (N : Int) / 16777216, (N : Int) / 65536, (N : Int) / 256, (N : Int) % 256] rfl (fun h => by cases h) ?hsrc (by unfold maxLen; omega) (by omega) ?c5 ?_)
  case hsrc =>
    have := bytes_new (w.alloc (.cells #[] 63)) [(N : Int) / 72057594037927936, (N : Int) / 281474976710656, (N : Int) / 1099511627776, (N : Int) / 4294967296, (N : Int) / 16777216, (N : Int) / 65536, (N : Int) / 256, (N : Int) % 256]
    rw [World.size_alloc] at this
    exact this
  case c5 => simp; omega
  intro v' w1 hown1 hgrow1
  have R := put_of (m := 8) (qs := [(N : Int) / 72057594037927936, (N : Int) / 281474976710656, (N : Int) / 1099511627776, (N : Int) / 4294967296, (N : Int) / 16777216, (N : Int) / 65536, (N : Int) / 256, (N : Int) % 256]) hv hB hgrow1 hown1
  obtain ⟨ao, cap, hv'⟩ := own_form hown1
  rw [hv'] at R ⊢
  clear hown1 hgrow1 hv' hv
  go_wp2
  go_ret
  exact ⟨ao, cap, rfl, R⟩

theorem inv32be (x y : Value) (w : World) : (callMethod (.iface 63 (.agg #[])) "AppendUint32" #[x, y]).run Ybaf.prog w = .ok (.enter 40 #[.agg #[], x, y]) w := by kernel_rfl
theorem inv64be (x y : Value) (w : World) : (callMethod (.iface 63 (.agg #[])) "AppendUint64" #[x, y]).run Ybaf.prog w = .ok (.enter 41 #[.agg #[], x, y]) w := by kernel_rfl
theorem meth32be (w : World) : (method 209 63 (.agg #[]) "AppendUint32").run Ybaf.prog w = .ok (40, .agg #[]) w := by kernel_rfl
theorem meth64be (w : World) : (method 209 63 (.agg #[]) "AppendUint64").run Ybaf.prog w = .ok (41, .agg #[]) w := by kernel_rfl
attribute [local go_sem] inv32be inv64be meth32be meth64be

set_option maxHeartbeats 300000 in
theorem uint_be4 (B E : Nat) (bl : Bool) (SZ : Int) (n : Nat) (xs : List Int) (N : Nat) (w : World) (hn : n ≤ 10000) (hN : N ≤ 2000) (hE : Enc B E w (.iface 63 (.agg #[])) bl SZ n xs) :
    Calls Ybaf.prog 12 #[.pointer (some ⟨E, 0, none⟩), .int .i64 4, .int .u64 N] w fun e w' => e = .returned (.tuple #[]) ∧ Enc B E w' (.iface 63 (.agg #[])) bl SZ (n + 4) (xs ++ be N 4) ∧ Below B w w' ∧ K38 w w' := by
  obtain ⟨ao, cap, hh, hown, hBE⟩ := hE
  obtain ⟨c0, c1, c4, c8, f0, hl⟩ := enc_cells hh
  have HH : Hid (w.heap[E]? = some (.cells #[.slice ao n cap, .iface 63 (.agg #[]), .bool bl, .int .i64 0, .int .i64 SZ, .int .i64 0, .int .i64 0, .int .i64 0, .nilIface] 35 (0, 0))) := hh
  have hwr : IntKind.u32.wrap (N : Int) = (N : Int) := by rw [IntKind.wrap_u32]; omega
  clear hh
  go_enter Ybaf.func12, Ybaf.ntmps12
  go_wp2
  go_region_with
    ((go_at_call 40; refine (be32 B _ n xs N _ (by exact hown) (by omega) hN (by simp; omega)).mono ?_; rintro e w1 ⟨ao1, cap1, rfl, hP⟩; have hh1 := hP.same.at HH.out (by decide); obtain ⟨d0, d1, d4, d8, g0, hl1⟩ := enc_cells hh1))
  all_goals
    go_end0
    exact ⟨rfl, enc_store hP.own hBE hh1, ((Below.refl B w).drew.trans hP.bel).setCell (p := ⟨E, 0, none⟩) hBE _, K38.trans (b := w1) (show K38 w.drew w1 from fun i x hx => hP.same.at hx (by decide)) (K38.set hh1 (by decide))⟩

set_option maxHeartbeats 300000 in
theorem uint_be8 (B E : Nat) (bl : Bool) (SZ : Int) (n : Nat) (xs : List Int) (N : Nat) (s : Int) (w : World) (hs : (s == 4) = false) (hn : n ≤ 10000) (hN : N ≤ 2000) (hE : Enc B E w (.iface 63 (.agg #[])) bl SZ n xs) :
    Calls Ybaf.prog 12 #[.pointer (some ⟨E, 0, none⟩), .int .i64 s, .int .u64 N] w fun e w' => e = .returned (.tuple #[]) ∧ Enc B E w' (.iface 63 (.agg #[])) bl SZ (n + 8) (xs ++ be N 8) ∧ Below B w w' ∧ K38 w w' := by
  obtain ⟨ao, cap, hh, hown, hBE⟩ := hE
  obtain ⟨c0, c1, c4, c8, f0, hl⟩ := enc_cells hh
  have HH : Hid (w.heap[E]? = some (.cells #[.slice ao n cap, .iface 63 (.agg #[]), .bool bl, .int .i64 0, .int .i64 SZ, .int .i64 0, .int .i64 0, .int .i64 0, .nilIface] 35 (0, 0))) := hh
  clear c8
  clear hh
  go_enter Ybaf.func12, Ybaf.ntmps12
  go_wp2
  go_region_with
    ((go_at_call 41; refine (be64 B _ n xs N _ (by exact hown) (by omega) hN (by simp; omega)).mono ?_; rintro e w1 ⟨ao1, cap1, rfl, hP⟩; have hh1 := hP.same.at HH.out (by decide); obtain ⟨d0, d1, d4, d8, g0, hl1⟩ := enc_cells hh1))
  all_goals
    go_end0
    exact ⟨rfl, enc_store hP.own hBE hh1, ((Below.refl B w).drew.trans hP.bel).setCell (p := ⟨E, 0, none⟩) hBE _, K38.trans (b := w1) (show K38 w.drew w1 from fun i x hx => hP.same.at hx (by decide)) (K38.set hh1 (by decide))⟩

end Go.Proofs.YbulkaepuFmt
