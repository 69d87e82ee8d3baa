/-
  Rows of bytes: what an argument '[]byte' is told as; append of such a row, and of a string, to one of the call's own, in a plain region and in one that draws its order; bytes.Equal (function 8) of two equal rows.
-/
import Derived.Test.YbulkaepuFmtRows
import Derived.WalkKit
import Derived.WalkSpells
import Derived.WalkLawsBesides
import Derived.Handy
import Derived.Laws.AppendOwnNone
import Derived.Deep.AppendLies
import Derived.Lib.AppendStr
namespace Go.Proofs.YbulkaepuFmt
open Go.RowKit

/-- THE n BYTES xs LIE AT p: where there is one, p is an address and each has its cell. -/
def Bytes (w : World) (p : Option Addr) (n : Nat) (xs : List Int) : Prop :=
  xs.length = n ∧ (0 < n → ∃ b o, p = some ⟨b, o, none⟩ ∧ ∀ i, i < n → w.cell? ⟨b, o + i, none⟩ = some (.int .u8 (xs.getD i 0)))

theorem Bytes.nil (w : World) (p : Option Addr) : Bytes w p 0 [] := ⟨rfl, fun h => absurd h (Nat.lt_irrefl 0)⟩

theorem Bytes.keep {w w' : World} {p : Option Addr} {n : Nat} {xs : List Int} (h : Bytes w p n xs) (hc : ∀ a v, w.cell? a = some v → w'.cell? a = some v) : Bytes w' p n xs :=
  ⟨h.1, fun hn => by obtain ⟨b, o, e, hcell⟩ := h.2 hn; exact ⟨b, o, e, fun i hi => hc _ _ (hcell i hi)⟩⟩

theorem Bytes.below {w w' : World} {p : Option Addr} {n : Nat} {xs : List Int} (h : Bytes w p n xs) (hb : Below w.heap.size w w') : Bytes w' p n xs :=
  h.keep fun a v hv => by rw [hb.cell (World.block_lt_of_cell? w _ hv)]; exact hv

/-- 'string(b)' of such a row. -/
theorem Bytes.convert {P : Program} {w : World} {p : Option Addr} {n : Nat} {xs : List Int} (h : Bytes w p n xs) (c : Nat) (src e dst : TypeId)
    (hs : P.underlying src = some (.slice e)) (he : P.underlying e = some (.int .u8)) (hd : P.underlying dst = some .string) :
    (convert src dst (.slice p n c)).run P w = .ok (.string (strOfNums xs)) w := by
  rcases Nat.eq_zero_or_pos n with hn | hn
  · subst hn
    obtain rfl : xs = [] := List.eq_nil_of_length_eq_zero h.1
    rw [run_convert_bytes_string w src dst e p 0 c hs he hd]
    cases p with
    | none => simp [Conv.bytesToString, strOfNums, ByteArray.empty, ByteArray.emptyWithCapacity]; rfl
    | some a =>
      have hl : (loadCells a 0).run P w = .ok (([] : List Int).map (Value.int .u8)).toArray w := run_loadCells_list (P := P) w a [] (fun j v hj => by simp at hj)
      rw [run_bytesToString w a 0 c [] hl]
      simp [strOfNums, ByteArray.empty, ByteArray.emptyWithCapacity]; rfl
  · obtain ⟨b, o, rfl, hc⟩ := h.2 hn
    exact run_convert_bytes_arg (P := P) w src e hs he b o n c xs h.1 hc dst hd

/-- bytes.Equal of two rows that hold the same bytes. -/
theorem equal_true (p1 p2 : Option Addr) (n c d : Nat) (xs : List Int) (w : World) (h1 : Bytes w p1 n xs) (h2 : Bytes w p2 n xs) :
    Calls Ybaf.prog 8 #[.slice p1 n c, .slice p2 n d] w fun e w' => e = .returned (.bool true) ∧ w' = w := by
  have k1 := h1.convert (P := Ybaf.prog) c 22 5 9 Ybaf.underlying22 Ybaf.underlying5 Ybaf.underlying9
  have k2 := h2.convert (P := Ybaf.prog) d 22 5 9 Ybaf.underlying22 Ybaf.underlying5 Ybaf.underlying9
  clear h1 h2
  go_enter Ybaf.func8, Ybaf.ntmps8
  go_wp2
  go_ret
  exact ⟨by simp, rfl⟩

/-- 'append(s, x...)', s the call's own (or nil), x a row of bytes that lies somewhere, nil, empty or not. -/
theorem wpList_append_bytes {P : Program} {w : World} {ops : Array Oper} {rest : List Oper} {o : Oper} {a : Act} {Q : Exit → Act → World → Prop} (hgd : o.guard = none) (s x : Operand) (t : TypeId)
    (ho : o.op = .call { callee := .builtin .append, args := #[s, x], argTypes := #[t, t] })
    (base : Nat) (e : TypeId) (i : TypeInfo) (z : Value) (bytes : Nat) (ht : P.underlying t = some (.slice e)) (hi : P.info? e = some i) (hz : i.zero = some z)
    (hsize : i.size = 1) (hby : i.bytes = bytes) (hzs : z.cells.size = 1)
    (v : Value) (n : Nat) (xs : List Value) (hs : a.eval s = v) (hown : w.ownsRow base e 1 v n xs)
    (p : Option Addr) (m c : Nat) (ns : List Int) (hx : a.eval x = .slice p m c) (hnil : p = none → m = 0 ∧ c = 0) (hsrc : Bytes w p m ns)
    (h63 : n + m ≤ maxLen) (hbytes : (n + m) * bytes ≤ 140737488355328) (hbase : base ≤ w.heap.size)
    (h : ∀ v' w', w'.ownsRow base e 1 v' (n + m) (xs ++ ns.map (Value.int .u8)) → w.grownBy w' v.ownBlock → wpList P ops Q rest (a.put o.dst v') w') : wpList P ops Q (o :: rest) a w := by
  cases p with
  | none =>
    obtain ⟨rfl, rfl⟩ := hnil rfl
    obtain rfl : ns = [] := List.eq_nil_of_length_eq_zero hsrc.1
    exact wpList_append_own_none hgd s x t ho base e i 1 ht hi v n xs hs hown hx (h v w (by simpa using hown) ⟨rfl, rfl, rfl, Nat.le_refl _, fun _ _ _ => rfl⟩)
  | some ad =>
    refine wpList_append_own w hgd s x t ho base e i z 1 bytes ht hi hz hsize hby hzs (by decide) v n xs hs hown ad m c (ns.map (Value.int .u8)) hx (by simp [hsrc.1]) ?_ ?_ h63 hbytes hbase (fun v' w' h1 h2 _ => h v' w' h1 h2)
    · intro j u hj
      have hjl : j < ns.length := by
        rcases Nat.lt_or_ge j ns.length with hlt | hge
        · exact hlt
        · simp [List.getElem?_eq_none (show (ns.map (Value.int .u8)).length ≤ j by simpa using hge)] at hj
      obtain ⟨b, off, e1, hc⟩ := hsrc.2 (by have := hsrc.1; omega)
      obtain rfl := Option.some.inj e1
      rw [Go.WideShapes.add_plain, hc j (by have := hsrc.1; omega)]
      simp [hjl] at hj
      simp [hjl, hj]
    · intro u hu
      obtain ⟨q, _, rfl⟩ := List.mem_map.1 hu
      rfl

/-- A string's bytes. -/
def strBytes (s : ByteArray) : List Int := s.data.toList.map fun b => (b.toNat : Int)

theorem strBytes_length (s : ByteArray) : (strBytes s).length = s.size := by
  rw [strBytes, List.length_map, Array.length_toList]; rfl

theorem strCells_eq (s : ByteArray) : Lib.strCells s = (strBytes s).map (Value.int .u8) := by simp [Lib.strCells, strBytes]

/-- 'append(b, s...)', s a string, in a plain region. -/
theorem wpList_append_text {P : Program} {w : World} {ops : Array Oper} {rest : List Oper} {o : Oper} {a : Act} {Q : Exit → Act → World → Prop} (hgd : o.guard = none) (sl x : Operand) (t u : TypeId)
    (ho : o.op = .call { callee := .builtin .append, args := #[sl, x], argTypes := #[t, u] })
    (base : Nat) (e : TypeId) (i : TypeInfo) (ht : P.underlying t = some (.slice e)) (hu : P.underlying u = some .string) (hi : P.info? e = some i) (hz : i.zero = some (.int .u8 0)) (hsize : i.size = 1) (hby : i.bytes = 1)
    (v : Value) (n : Nat) (xs : List Value) (hs : a.eval sl = v) (hown : w.ownsRow base e 1 v n xs) (s : ByteArray) (hx : a.eval x = .string s) (hbytes : n + s.size ≤ 140737488355328) (hbase : base ≤ w.heap.size)
    (h : ∀ v' w', w'.ownsRow base e 1 v' (n + s.size) (xs ++ (strBytes s).map (Value.int .u8)) → w.grownBy w' v.ownBlock → wpList P ops Q rest (a.put o.dst v') w') : wpList P ops Q (o :: rest) a w :=
  Lib.wpList_append_own_string w hgd sl x t u ho base e i ht hu hi hz hsize hby v n xs hs hown s hx (by unfold maxLen; omega) hbytes hbase (fun v' w' h1 h2 _ => h v' w' (by rw [← strCells_eq]; exact h1) h2)

/-- .. and as a step of a region that draws its order. -/
theorem step_append_text {P : Program} {w : World} {ops : Array Oper} {o : Oper} {a : Act} {K : Act → World → Prop} {Q : Exit → Act → World → Prop} {E : Prop} (hgd : o.guard = none) (sl x : Operand) (t u : TypeId)
    (ho : o.op = .call { callee := .builtin .append, args := #[sl, x], argTypes := #[t, u] })
    (base : Nat) (e : TypeId) (i : TypeInfo) (ht : P.underlying t = some (.slice e)) (hu : P.underlying u = some .string) (hi : P.info? e = some i) (hz : i.zero = some (.int .u8 0)) (hsize : i.size = 1) (hby : i.bytes = 1)
    (v : Value) (n : Nat) (xs : List Value) (hs : a.eval sl = v) (hown : w.ownsRow base e 1 v n xs) (s : ByteArray) (hx : a.eval x = .string s) (hbytes : n + s.size ≤ 140737488355328) (hbase : base ≤ w.heap.size)
    (h : ∀ ao cap w', w'.ownsRow base e 1 (.slice ao (n + s.size) cap) (n + s.size) (xs ++ (strBytes s).map (Value.int .u8)) → w.grownBy w' v.ownBlock → K (a.put o.dst (.slice ao (n + s.size) cap)) w') :
    if Region.wanted o (yielded ops a.tmps) = true then Oper.wp P o a w K Q else E := by
  have hw : Region.wanted o (yielded ops a.tmps) = true := by simp [Region.wanted, hgd]
  rw [if_pos hw]
  obtain ⟨v', w', hr, h2, h3, _⟩ := Lib.run_append_own_string (P := P) w base t u o.type e i ht hu hi hz hsize hby v n xs hown s (by unfold maxLen; omega) hbytes hbase
  rw [strCells_eq] at h2
  obtain ⟨ao, cap, rfl⟩ : ∃ ao cap, v' = .slice ao (n + s.size) cap := by
    rcases h2.2 with ⟨rfl, h0⟩ | ⟨g, cap, _, rfl, _⟩
    · exact ⟨none, 0, by rw [h0]⟩
    · exact ⟨_, cap, rfl⟩
  unfold Oper.wp execOp
  simp only [ho, resolve, invoke, builtin, Sem.run_bind, Sem.run_pure, Result.andThen_ok, List.map_toArray, List.map_cons, List.map_nil, hs, hx, hr]
  exact h ao cap w' h2 h3

/-- 'append(s, x...)', as a step of a region that draws its order: s nil, x a row of bytes that lies somewhere, nil, empty or not. -/
theorem step_append_bytes {P : Program} {w : World} {ops : Array Oper} {o : Oper} {a : Act} {K : Act → World → Prop} {Q : Exit → Act → World → Prop} {E : Prop} (hgd : o.guard = none) (s x : Operand) (t : TypeId)
    (ho : o.op = .call { callee := .builtin .append, args := #[s, x], argTypes := #[t, t] })
    (base : Nat) (e : TypeId) (i : TypeInfo) (z : Value) (bytes : Nat) (ht : P.underlying t = some (.slice e)) (hi : P.info? e = some i) (hz : i.zero = some z)
    (hsize : i.size = 1) (hby : i.bytes = bytes) (hzs : z.cells.size = 1)
    (v : Value) (n : Nat) (xs : List Value) (hs : a.eval s = v) (hown : w.ownsRow base e 1 v n xs)
    (p : Option Addr) (m c : Nat) (ns : List Int) (hx : a.eval x = .slice p m c) (hnil : p = none → m = 0 ∧ c = 0) (hsrc : Bytes w p m ns)
    (h63 : n + m ≤ maxLen) (hbytes : (n + m) * bytes ≤ 140737488355328) (hbase : base ≤ w.heap.size)
    (h : ∀ ao cap w', w'.ownsRow base e 1 (.slice ao (n + m) cap) (n + m) (xs ++ ns.map (Value.int .u8)) → w.grownBy w' v.ownBlock → K (a.put o.dst (.slice ao (n + m) cap)) w') :
    if Region.wanted o (yielded ops a.tmps) = true then Oper.wp P o a w K Q else E := by
  have hw : Region.wanted o (yielded ops a.tmps) = true := by simp [Region.wanted, hgd]
  rw [if_pos hw]
  have form : ∀ {w' : World} {v' : Value}, w'.ownsRow base e 1 v' (n + m) (xs ++ ns.map (Value.int .u8)) → ∃ ao cap, v' = .slice ao (n + m) cap := fun h2 => by
    rcases h2.2 with ⟨rfl, h0⟩ | ⟨g, cap, _, rfl, _⟩
    · exact ⟨none, 0, by rw [h0]⟩
    · exact ⟨_, cap, rfl⟩
  cases p with
  | none =>
    obtain ⟨rfl, rfl⟩ := hnil rfl
    obtain rfl : ns = [] := List.eq_nil_of_length_eq_zero hsrc.1
    have hrun := run_append_owned_none (P := P) (w := w) base t o.type e i 1 ht hi v n xs hown
    have hown' : w.ownsRow base e 1 v (n + 0) (xs ++ ([] : List Int).map (Value.int .u8)) := by simpa using hown
    obtain ⟨ao, cap, rfl⟩ := form hown'
    simp only [Nat.add_zero] at hrun
    unfold Oper.wp
    simp [execOp, ho, resolve, invoke, builtin, hs, hx, hrun, Result.andThen]
    exact h ao cap w hown' ⟨rfl, rfl, rfl, Nat.le_refl _, fun _ _ _ => rfl⟩
  | some ad =>
    refine wp_append_own w s x t ho base e i z 1 bytes ht hi hz hsize hby hzs (by decide) v n xs hs hown ad m c (ns.map (Value.int .u8)) hx (by simp [hsrc.1]) ?_ ?_ h63 hbytes hbase (fun v' w' h1 h2 _ => ?_)
    · intro j u hj
      have hjl : j < ns.length := by
        rcases Nat.lt_or_ge j ns.length with hlt | hge
        · exact hlt
        · simp [List.getElem?_eq_none (show (ns.map (Value.int .u8)).length ≤ j by simpa using hge)] at hj
      obtain ⟨b, off, e1, hc⟩ := hsrc.2 (by have := hsrc.1; omega)
      obtain rfl := Option.some.inj e1
      rw [Go.WideShapes.add_plain, hc j (by have := hsrc.1; omega)]
      simp [hjl] at hj
      simp [hjl, hj]
    · intro u hu
      obtain ⟨q, _, rfl⟩ := List.mem_map.1 hu
      rfl
    · obtain ⟨ao, cap, rfl⟩ := form h1
      exact h ao cap w' h1 h2

end Go.Proofs.YbulkaepuFmt
