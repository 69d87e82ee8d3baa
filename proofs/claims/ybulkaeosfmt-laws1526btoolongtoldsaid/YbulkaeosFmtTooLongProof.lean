/-
  THE CARD 'Rows.LawS1526BTooLongToldSaid': fmt's text is told by the form's own function; the law holds whatever the text is.
-/
import Derived.Test.YbulkaeosFmtArg
import Derived.Test.YbulkaeosFmtCards
import Derived.Stop.JoinedAt
import Derived.Stop.JoinedTold
import Derived.SevenToldRow
namespace Go.Proofs.YbulkaeosFmt
open Go.ChangeShapes Go.WideShapes Go.ChangeAt Go.RowKit
open Go.Extern.Stop Go.Stop Go.Extern
set_option linter.unusedVariables false

theorem Ybaf.own : ownKnob Ybaf.prog.godebug = none := by kernel_rfl
theorem Ybaf.laidOut : laidOutB Ybaf.prog = true := by kernel_rfl
theorem Ybaf.stops : Ybaf.pinned.checked.prog.stops = ["fmt.errorf"] := by kernel_rfl
theorem Ybaf.stopKnobs : Ybaf.pinned.checked.prog.stopKnobs = [] := by kernel_rfl
theorem Ybaf.quiet (os : Os) : Stop.quiet Ybaf.pinned.checked.prog os := by
  intro k hk
  rw [Ybaf.stopKnobs] at hk
  cases hk

namespace lawS1526BTooLong

theorem walk (F : Interp) (a0 : Option Addr) (len0 cap0 : Nat) (xs : List Int) (a1 : Int) (a2 : Bool) (w : World) (hF : F.answers w.tape) (w0 : Arg w a0 len0 cap0 xs) (w1 : (Lit.int .u16 a1).wf = true) :
    Calls Ybaf.prog 4 #[.slice a0 len0 cap0, .int .u16 a1, .bool a2] w fun e w' => e = .returned (.bool true) ∧ Below w.heap.size w w' := by
  by_cases hn : len0 ≤ 4096
  · obtain ⟨h0, h1⟩ := bounds_u16 w1
    obtain ⟨x, rfl⟩ := Int.eq_ofNat_of_zero_le h0
    cases a2 with
    | false => exact tooLong_one F a0 len0 cap0 xs x w hF w0 hn (by omega)
    | true => exact tooLong_two F a0 len0 cap0 xs x w hF w0 hn (by omega)
  · exact tooLong_far a0 len0 cap0 a1 a2 w (by omega)

set_option maxRecDepth 100000 in
theorem lifted (os : Os) (started : os.Started) (H : Type) (enc : TypeId × Value → H) :
    ReturnsInTold none {} Ybaf.checked os 4 .any Input.okWide ((OpenSpec.ofChange Rows.lawS1526BTooLongSpec).preRow enc Ybaf.prog Ybaf.f4 [] false []) (fun F => ((OpenSpec.ofChange Rows.lawS1526BTooLongSpec).at F).post enc Ybaf.prog Ybaf.f4 false true false false) (aloneAtReturn Ybaf.prog) nothingAlways := by
  refine returnsInTold_of_row (C := Ybaf.checked) (s := OpenSpec.ofChange Rows.lawS1526BTooLongSpec) (by kernel_rfl) Ybaf.own started (by kernel_rfl) Ybaf.func4
    (OpenSpec.witness_stopped (enc := enc) (C := Ybaf.checked) false ⟨#[], #[.slice none 0 0, .int .u16 0, .bool false], []⟩ 8 (by kernel_rfl) (by kernel_rfl) (by kernel_rfl) (by kernel_rfl)) ?_
  intro F W base args ds gs before _ hF hval0 hW _ _ _ _ _
  have hval : ∀ (j : Nat) t v, Ybaf.f4.params[j]? = some t → args[j]? = some v → Value.okWide Ybaf.prog W .any base t v := hval0
  have hW' := hW
  obtain ⟨p, q, hA0, hV, rfl, hfz, hnd⟩ := hW
  have hA : DataW.TrodAll enc Ybaf.prog W 0 (fun _ => true) true Ybaf.f4.params.toList args.toList ds p := hA0
  rw [Ybaf.params4] at hA hval
  obtain ⟨v0, vs0, d0, ds0, p0, q0, hargs, rfl, rfl, h0, r0⟩ := trodAll_cons hA
  obtain ⟨v1, vs1, d1, ds1, p1, q1, rfl, rfl, rfl, h1, r1⟩ := trodAll_cons r0
  obtain ⟨v2, vs2, d2, ds2, p2, q2, rfl, rfl, rfl, h2, r2⟩ := trodAll_cons r1
  obtain ⟨rfl, rfl, rfl⟩ := trodAll_nil r2
  obtain rfl : args = #[v0, v1, v2] := by cases args; simp_all
  obtain ⟨rfl, rfl⟩ := trodVars_none hV
  obtain ⟨a0, len0, cap0, rfl⟩ := okWide_slice Ybaf.underlying22 (hval 0 22 v0 rfl rfl)
  have k0 := h0
  have lt0 : ∀ x ∈ p0, x.block < W.heap.size := by obtain ⟨m, hm⟩ := k0; exact DataW.trod_lt m _ _ _ hm
  obtain ⟨xs, w0⟩ : ∃ xs, Arg W a0 len0 cap0 xs := by
    obtain ⟨fuel, hf⟩ := h0
    exact arg_of (by simpa [Value.cells] using hf)
  obtain ⟨a1, rfl, rfl, rfl, w1⟩ := open_int Ybaf.underlying32 (hval 1 32 v1 rfl rfl) h1
  obtain ⟨a2, rfl, rfl, rfl⟩ := open_bool Ybaf.underlying4 (hval 2 4 v2 rfl rfl) h2
  clear hA0 hval0
  refine (walk F.told a0 len0 cap0 xs a1 a2 W hF w0 w1).mono fun e W' ⟨he, bel⟩ => ?_
  subst he
  exact ⟨_, rfl, _, _, _, [], _, [], hW', trodAll_mk1 (shut_bool Ybaf.underlying4 _), (trodAll_cons_mk (Below.trod Ybaf.laidOut (by kernel_rfl) (of_decide_eq_true (by kernel_rfl)) k0 bel lt0) (trodAll_cons_mk (shut_int Ybaf.underlying32 w1) (trodAll_cons_mk (shut_bool Ybaf.underlying4 a2) trodAll_mk0))), rfl, bel.frame _, fun h => by cases h⟩

end lawS1526BTooLong

/-- THE STATEMENT -/
theorem tooLong_proved : Rows.LawS1526BTooLongToldSaid :=
  Claim7.holds_of_told_any 4 Ybaf.f4 "fmt.errorf" [] [] _ _ _ (by kernel_rfl) rfl rfl rfl Ybaf.laidOut (by kernel_rfl) rfl ⟨rfl, rfl, rfl, rfl, rfl, rfl, rfl⟩ rfl rfl (by kernel_rfl) (by kernel_rfl) Ybaf.func4 (by kernel_rfl)
    (of_decide_eq_true (by kernel_rfl)) (of_decide_eq_true (by kernel_rfl)) Ybaf.stops.symm rfl Ybaf.stopKnobs.symm (by kernel_rfl)
    (by kernel_rfl) (by kernel_rfl) (by kernel_rfl) (by kernel_rfl) (by kernel_rfl) (by kernel_rfl) (by kernel_rfl) (by kernel_rfl) (by kernel_rfl) rfl (by kernel_rfl) rfl rfl
    rfl rfl
    rfl (by kernel_rfl) (by kernel_rfl) (by kernel_rfl) (by decide) (by kernel_rfl)
    (OpenClaim.moreEntering_of (by kernel_rfl) (by kernel_rfl) (by kernel_rfl) (by kernel_rfl) (by kernel_rfl) (by kernel_rfl) (by kernel_rfl) (by kernel_rfl) (by kernel_rfl) (by kernel_rfl))
    ⟨_, WideRow.started_initial, Ybaf.quiet _⟩
    (fun os started _ H enc _ => lawS1526BTooLong.lifted os started H enc)

end Go.Proofs.YbulkaeosFmt
