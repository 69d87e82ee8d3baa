/-
  '(*encoder).prefixed' (function 6) past its field's reach, or behind an earlier error: fmt.Errorf (9, 11) on its way.
-/
import Derived.Test.YbulkaeosFmtPrefixed
namespace Go.Proofs.YbulkaeosFmt
open Go.RowKit Go.Extern.Stop Go.Stop Go.Extern

/-! ### The closed facts for the walk over fmt.errorf (after the guide, CheckFmt.lean, at this dump's numbers) -/
theorem call11 (args : Array Value) (w : World) : (callFunc 11 args).run Ybaf.prog w = ((FmtStop.errorf #[9, 41] #[24] args).run Ybaf.prog w).andThen fun v w' => .ok (.value v) w' :=
  run_callFunc_extern Ybaf.func11 (by kernel_rfl) (by kernel_rfl) (by kernel_rfl) (by kernel_rfl) args w
theorem guardAny (name : String) (w : World) : (FmtStop.guard name).run Ybaf.prog w = .ok () w := by kernel_rfl
theorem fmt0 : FmtStop.printed? ⟨#[37, 115, 32, 111, 102, 32, 37, 100, 32, 98, 121, 116, 101, 115, 44, 32, 109, 111, 114, 101, 32, 116, 104, 97, 110, 32, 116, 104, 101, 32, 37, 100, 32, 105, 116, 115, 32, 108, 101, 110, 103, 116, 104, 32, 102, 105, 101, 108, 100, 32, 99, 97, 110, 32, 115, 97, 121]⟩ 3 = some [(0, 115, false), (1, 100, false), (2, 100, false)] := by kernel_rfl
theorem fmt0r (w : World) : (FmtDoors.printed ⟨#[37, 115, 32, 111, 102, 32, 37, 100, 32, 98, 121, 116, 101, 115, 44, 32, 109, 111, 114, 101, 32, 116, 104, 97, 110, 32, 116, 104, 101, 32, 37, 100, 32, 105, 116, 115, 32, 108, 101, 110, 103, 116, 104, 32, 102, 105, 101, 108, 100, 32, 99, 97, 110, 32, 115, 97, 121]⟩ 3).run Ybaf.prog w = .ok [(0, 115, false), (1, 100, false), (2, 100, false)] w := by kernel_rfl
def shape9 : List UInt8 := [12, 6, 0, 0, 0, 0, 0, 0, 0, 115, 116, 114, 105, 110, 103]
theorem op9_115w (name : String) (x : ByteArray) (w : World) : (FmtStop.operand name true 115 false (.iface 9 (.string x))).run Ybaf.prog w = .ok (shape9, FmtStop.pack x.data.toList) w := by kernel_rfl
def shape3 : List UInt8 := [5, 3, 0, 0, 0, 0, 0, 0, 0, 105, 110, 116]
theorem op3_100w (name : String) (x : Int) (w : World) : (FmtStop.operand name true 100 false (.iface 3 (.int .i64 x))).run Ybaf.prog w = .ok (shape3, Go.Extern.Stop.digits 8 (x % 2 ^ 64).toNat) w := by kernel_rfl
theorem ptr34 (w : World) : (FmtStop.ptrTo "errors.errorString").run Ybaf.prog w = .ok 34 w := by kernel_rfl
theorem elem34 (w : World) : (elemOf 34).run Ybaf.prog w = .ok 36 w := by kernel_rfl
theorem isError34 (w : World) : (FmtDoors.textMethod 34 "Error").run Ybaf.prog w = .ok true w := by kernel_rfl
attribute [local go_sem] call11 guardAny fmt0 fmt0r op9_115w op3_100w ptr34 elem34 isError34

theorem Enc.drew {B E : Nat} {w : World} {err : Value} {n : Nat} {xs : List Int} (h : Enc B E w err n xs) : Enc B E w.drew err n xs := h

theorem Enc.setErr {B E : Nat} {w : World} {err : Value} {n : Nat} {xs : List Int} (h : Enc B E w err n xs) (z : Value) : Enc B E (w.setCell ⟨E, 1, none⟩ z) z n xs := by
  obtain ⟨ao, cap, hh, hown, hb⟩ := h
  exact ⟨ao, cap, set_second hh, hown.kept (row := some E) ⟨rfl, rfl, rfl, by simp [World.setCell], fun k _ hk => Below.heap_setCell _ _ _ _ (fun e => hk (by rw [e]))⟩ (Or.inr (fun e => own_other hown hh e.symm)), hb⟩

set_option maxHeartbeats 400000 in
theorem prefixed_long_one (F : Interp) (B E : Nat) (n : Nat) (xs : List Int) (p : Option Addr) (m c : Nat) (s : ByteArray) (w : World) (hF : F.answers w.tape) (hE : Enc B E w .nilIface n xs) (hm : 255 < m) (hm2 : m ≤ 70000) :
    Calls Ybaf.prog 6 #[.pointer (some ⟨E, 0, none⟩), .int .i64 1, .slice p m c, .string s] w fun e w' => e = .returned (.tuple #[]) ∧ (∃ t y, Enc B E w' (.iface t y) n xs) ∧ Below B w w' := by
  have hF' := answers_open hF
  have HS : Hid (∀ z, Enc B E (w.setCell ⟨E, 1, none⟩ z) z n xs) := fun z => hE.setErr z
  have hlt := hE.lt
  obtain ⟨ao, cap, hh, hown, hBE⟩ := hE
  obtain ⟨c0, c1, f0, f1, hl⟩ := two_cells hh
  clear hh hown
  go_enter Ybaf.func6, Ybaf.ntmps6
  go_wp2
  go_returns
  exact ⟨rfl, ⟨34, _, (((HS.out _).alloc _).alloc _).drew⟩, ((((Below.refl B w).setCell hlt.1 _).alloc (by simp; omega) _).alloc (by simp; omega) _).drew⟩

set_option maxHeartbeats 400000 in
theorem prefixed_long_two (F : Interp) (B E : Nat) (n : Nat) (xs : List Int) (p : Option Addr) (m c : Nat) (s : ByteArray) (w : World) (hF : F.answers w.tape) (hE : Enc B E w .nilIface n xs) (hm : 65535 < m) (hm2 : m ≤ 70000) :
    Calls Ybaf.prog 6 #[.pointer (some ⟨E, 0, none⟩), .int .i64 2, .slice p m c, .string s] w fun e w' => e = .returned (.tuple #[]) ∧ (∃ t y, Enc B E w' (.iface t y) n xs) ∧ Below B w w' := by
  have hF' := answers_open hF
  have HS : Hid (∀ z, Enc B E (w.setCell ⟨E, 1, none⟩ z) z n xs) := fun z => hE.setErr z
  have hlt := hE.lt
  obtain ⟨ao, cap, hh, hown, hBE⟩ := hE
  obtain ⟨c0, c1, f0, f1, hl⟩ := two_cells hh
  clear hh hown
  go_enter Ybaf.func6, Ybaf.ntmps6
  go_wp2
  go_returns
  exact ⟨rfl, ⟨34, _, (((HS.out _).alloc _).alloc _).drew⟩, ((((Below.refl B w).setCell hlt.1 _).alloc (by simp; omega) _).alloc (by simp; omega) _).drew⟩

set_option maxHeartbeats 400000 in
theorem prefixed_failed_one (F : Interp) (B E : Nat) (t : TypeId) (y : Value) (n : Nat) (xs : List Int) (p : Option Addr) (m c : Nat) (s : ByteArray) (w : World) (hF : F.answers w.tape) (hE : Enc B E w (.iface t y) n xs) (hm2 : m ≤ 70000) :
    Calls Ybaf.prog 6 #[.pointer (some ⟨E, 0, none⟩), .int .i64 1, .slice p m c, .string s] w fun e w' => e = .returned (.tuple #[]) ∧ Enc B E w' (.iface t y) n xs ∧ Below B w w' := by
  have hF' := answers_open hF
  have HS : Hid (Enc B E w (.iface t y) n xs) := hE
  have hlt := hE.lt
  obtain ⟨ao, cap, hh, hown, hBE⟩ := hE
  obtain ⟨c0, c1, f0, f1, hl⟩ := two_cells hh
  have HB : Hid (∀ o, (w.alloc o).heap[E]? = some (.cells #[.slice ao n cap, .iface t y] 28 (0, 0))) := fun o => by rw [Below.heap_alloc _ _ _ hl]; exact hh
  have HB2 : Hid (∀ o o', ((w.alloc o).alloc o').heap[E]? = some (.cells #[.slice ao n cap, .iface t y] 28 (0, 0))) := fun o o' => by rw [Below.heap_alloc _ _ _ (by simp; omega)]; exact HB.out o
  clear hh hown
  by_cases hm : 255 < m
  · go_enter Ybaf.func6, Ybaf.ntmps6
    go_wp2
    go_returns
    exact ⟨rfl, ((HS.out.alloc _).alloc _).drew, (((Below.refl B w).alloc (by omega) _).alloc (by simp; omega) _).drew⟩
  · go_enter Ybaf.func6, Ybaf.ntmps6
    go_wp2_with fail
    refine (put_failed E _ t y _ _ (HB.out _)).mono ?_
    rintro e w1 ⟨rfl, rfl⟩
    go_wp2_with fail
    refine (put_failed E _ t y _ _ (HB.out _)).mono ?_
    rintro e w1 ⟨rfl, rfl⟩
    go_wp2
    go_end0
    exact ⟨rfl, HS.out.alloc _, (Below.refl B w).alloc (by omega) _⟩

set_option maxHeartbeats 400000 in
theorem prefixed_failed_two (F : Interp) (B E : Nat) (t : TypeId) (y : Value) (n : Nat) (xs : List Int) (p : Option Addr) (m c : Nat) (s : ByteArray) (w : World) (hF : F.answers w.tape) (hE : Enc B E w (.iface t y) n xs) (hm2 : m ≤ 70000) :
    Calls Ybaf.prog 6 #[.pointer (some ⟨E, 0, none⟩), .int .i64 2, .slice p m c, .string s] w fun e w' => e = .returned (.tuple #[]) ∧ Enc B E w' (.iface t y) n xs ∧ Below B w w' := by
  have hF' := answers_open hF
  have HS : Hid (Enc B E w (.iface t y) n xs) := hE
  have hlt := hE.lt
  obtain ⟨ao, cap, hh, hown, hBE⟩ := hE
  obtain ⟨c0, c1, f0, f1, hl⟩ := two_cells hh
  have HB : Hid (∀ o, (w.alloc o).heap[E]? = some (.cells #[.slice ao n cap, .iface t y] 28 (0, 0))) := fun o => by rw [Below.heap_alloc _ _ _ hl]; exact hh
  have HB2 : Hid (∀ o o', ((w.alloc o).alloc o').heap[E]? = some (.cells #[.slice ao n cap, .iface t y] 28 (0, 0))) := fun o o' => by rw [Below.heap_alloc _ _ _ (by simp; omega)]; exact HB.out o
  clear hh hown
  by_cases hm : 65535 < m
  · go_enter Ybaf.func6, Ybaf.ntmps6
    go_wp2
    go_returns
    exact ⟨rfl, ((HS.out.alloc _).alloc _).drew, (((Below.refl B w).alloc (by omega) _).alloc (by simp; omega) _).drew⟩
  · go_enter Ybaf.func6, Ybaf.ntmps6
    go_wp2_with fail
    refine (put_failed E _ t y _ _ (HB.out _)).mono ?_
    rintro e w1 ⟨rfl, rfl⟩
    go_wp2_with fail
    refine (put_failed E _ t y _ _ (HB2.out _ _)).mono ?_
    rintro e w1 ⟨rfl, rfl⟩
    go_wp2_with fail
    refine (put_failed E _ t y _ _ (HB2.out _ _)).mono ?_
    rintro e w1 ⟨rfl, rfl⟩
    go_wp2
    go_end0
    exact ⟨rfl, (HS.out.alloc _).alloc _, ((Below.refl B w).alloc (by omega) _).alloc (by simp; omega) _⟩

end Go.Proofs.YbulkaeosFmt
