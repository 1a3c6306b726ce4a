/-
  The proof of 'Rows.FnEncodeRefIsReadAsAnEntrysInstanceToldSaid'.
-/
import Derived.Test.Qxb6616623aFmtCards
import Derived.Test.Qxb6616623aFmtLaw5
import Derived.ProofKit
import Derived.OpenShut
import Derived.Stop.JoinedAt
import Derived.Stop.JoinedTold
import Derived.SevenToldRow
namespace Go.Proofs.Qxb6616623aFmt.fnEncodeRefIsReadAsAnEntrysInstance
open Go.ChangeShapes Go.WideShapes Go.ChangeAt Go.RowKit Go.Kit
open Go.Extern.Stop Go.Stop Go.Extern

theorem own : ownKnob Tryf.prog.godebug = none := by kernel_rfl
theorem laidOut : laidOutB Tryf.prog = true := by kernel_rfl
theorem stops : Tryf.pinned.checked.prog.stops = ["fmt.errorf"] := by kernel_rfl
theorem stopKnobs : Tryf.pinned.checked.prog.stopKnobs = [] := by kernel_rfl
theorem quiet (os : Os) : Stop.quiet Tryf.pinned.checked.prog os := by
  intro k hk
  rw [stopKnobs] at hk
  cases hk

theorem walk (F : Interp) (n0 n1 : Int) (w : World) (hF : F.answers w.tape) (w0 : (Lit.int .i64 n0).wf = true) (w1 : (Lit.int .u64 n1).wf = true) :
    Calls Tryf.prog 5 #[.int .i64 n0, .int .u64 n1] w fun e w' => e = .returned (.bool true) ∧ Below w.heap.size w w' := by
  have h0 : -9223372036854775808 ≤ n0 ∧ n0 ≤ 9223372036854775807 := by simpa [Lit.wf, IntKind.min, IntKind.max, IntKind.signed, IntKind.bits] using w0
  have h1 : 0 ≤ n1 ∧ n1 ≤ 18446744073709551615 := by simpa [Lit.wf, IntKind.min, IntKind.max, IntKind.signed, IntKind.bits] using w1
  obtain ⟨i, rfl⟩ : ∃ i : Nat, n1 = (i : Int) := ⟨n1.toNat, by omega⟩
  have hw : IntKind.u64.wrap n0 = n0 % 18446744073709551616 := by simp [IntKind.wrap, IntKind.signed, IntKind.bits]
  obtain ⟨S, hS⟩ : ∃ S : Nat, n0 % 18446744073709551616 = (S : Int) := ⟨(n0 % 18446744073709551616).toNat, by omega⟩
  exact law5_any F n0 S i w hF (hw.trans hS) (by omega) (by omega) (by omega) (by omega)

set_option maxRecDepth 100000 in
theorem lifted (os : Os) (started : os.Started) (H : Type) (enc : TypeId × Value → H) :
    ReturnsInTold none {} Tryf.checked os 5 .any Input.okWide ((OpenSpec.ofChange Rows.fnEncodeRefIsReadAsAnEntrysInstanceSpec).preRow enc Tryf.prog Tryf.f5 [] false []) (fun F => ((OpenSpec.ofChange Rows.fnEncodeRefIsReadAsAnEntrysInstanceSpec).at F).post enc Tryf.prog Tryf.f5 false true false false) (aloneAtReturn Tryf.prog) nothingAlways := by
  refine returnsInTold_of_row (C := Tryf.checked) (s := OpenSpec.ofChange Rows.fnEncodeRefIsReadAsAnEntrysInstanceSpec) (by kernel_rfl) own started (by kernel_rfl) Tryf.func5
    (OpenSpec.witness_stopped (enc := enc) (C := Tryf.checked) false ⟨#[], #[.int .i64 0, .int .u64 0], []⟩ 8 (by kernel_rfl) (by kernel_rfl) (by kernel_rfl) (by kernel_rfl)) ?_
  intro F W base args ds gs before _ hF hval0 hW _ _ _ _ _
  have hval : ∀ (j : Nat) t v, Tryf.f5.params[j]? = some t → args[j]? = some v → Value.okWide Tryf.prog W .any base t v := hval0
  have hW' := hW
  obtain ⟨p, q, hA0, hV, rfl, hfz, hnd⟩ := hW
  have hA : DataW.TrodAll enc Tryf.prog W 0 (fun _ => true) true Tryf.f5.params.toList args.toList ds p := hA0
  rw [Tryf.params5] at hA hval
  obtain ⟨v0, vs0, d0, ds0, p0, q0, hargs, rfl, rfl, h0, r0⟩ := trodAll_cons hA
  obtain ⟨v1, vs1, d1, ds1, p1, q1, hargs1, rfl, rfl, h1, r1⟩ := trodAll_cons r0
  obtain ⟨rfl, rfl, rfl⟩ := trodAll_nil r1
  obtain rfl : args = #[v0, v1] := by cases args; simp_all
  obtain ⟨rfl, rfl⟩ := trodVars_none hV
  obtain ⟨n0, rfl, rfl, rfl, w0⟩ := open_int Tryf.underlying3 (hval 0 3 v0 rfl rfl) h0
  obtain ⟨n1, rfl, rfl, rfl, w1⟩ := open_int Tryf.underlying25 (hval 1 25 v1 rfl rfl) h1
  clear hA0 hval0
  refine (walk F.told n0 n1 W hF w0 w1).mono fun e W' ⟨he, bel⟩ => ?_
  subst he
  exact ⟨_, rfl, _, _, _, [], _, [], hW', trodAll_mk1 (shut_bool Tryf.underlying4 _), (trodAll_cons_mk (shut_int Tryf.underlying3 w0) (trodAll_mk1 (shut_int Tryf.underlying25 w1))), rfl, bel.frame _, fun h => by cases h⟩

theorem proved : Rows.FnEncodeRefIsReadAsAnEntrysInstanceToldSaid :=
  Claim7.holds_of_told_any 5 Tryf.f5 "fmt.errorf" [] [] _ _ _ (by kernel_rfl) rfl rfl rfl laidOut (by kernel_rfl) rfl ⟨rfl, rfl, rfl, rfl, rfl, rfl, rfl⟩ rfl rfl (by kernel_rfl) (by kernel_rfl) Tryf.func5 (by kernel_rfl)
    (of_decide_eq_true (by kernel_rfl)) (of_decide_eq_true (by kernel_rfl)) stops.symm rfl stopKnobs.symm (by kernel_rfl)
    (by kernel_rfl) (by kernel_rfl) (by kernel_rfl) (by kernel_rfl) (by kernel_rfl) (by kernel_rfl) (by kernel_rfl) (by kernel_rfl) (by kernel_rfl) rfl (by kernel_rfl) rfl rfl
    rfl rfl
    rfl (by kernel_rfl) (by kernel_rfl) (by kernel_rfl) (by decide) (by kernel_rfl)
    (OpenClaim.moreEntering_of (by kernel_rfl) (by kernel_rfl) (by kernel_rfl) (by kernel_rfl) (by kernel_rfl) (by kernel_rfl) (by kernel_rfl) (by kernel_rfl) (by kernel_rfl) (by kernel_rfl))
    ⟨_, WideRow.started_initial, quiet _⟩
    (fun os started _ H enc _ => lifted os started H enc)
#print axioms proved
end Go.Proofs.Qxb6616623aFmt.fnEncodeRefIsReadAsAnEntrysInstance
