/- The row's step and the card 'Rows.FnErrTellsWhetherAllAreStringsToldSaid'. -/
import Derived.Test.Qxb6604339aFmtKit
import Derived.Test.Qxb6604339aFmtLaw5
namespace Go.Proofs.Qxb6604339aFmt.fnErrTellsWhetherAllAreStrings
open Go.ChangeShapes Go.WideShapes Go.ChangeAt Go.RowKit
open Go.ChangeMaps (open_string shut_string)
open Go.Extern.Stop Go.Stop Go.Extern

theorem door_met (os : Os) (args : Array Value) : laidMetH Tryf.prog Rows.fnErrTellsWhetherAllAreStringsRow.laid ((World.doorLaid Tryf.prog 85 os).forCall (fun _ _ => 0) ⟨#[], args, []⟩).memory :=
  laidMetH_of_parts3 (fuel := 8) (laidMet_of_run' 8 (by kernel_rfl) (by kernel_rfl)) (by kernel_rfl) (by kernel_rfl)

set_option maxRecDepth 100000 in
set_option maxHeartbeats 1000000 in
theorem lifted (os : Os) (started : os.Started) (H : Type) (enc : TypeId × Value → H) :
    ReturnsInTold none {} Tryf.checked os 5 .any Input.okWide ((OpenSpec.ofChange Rows.fnErrTellsWhetherAllAreStringsSpec).preRow enc Tryf.prog Tryf.f5 Rows.fnErrTellsWhetherAllAreStringsRow.domain false Rows.fnErrTellsWhetherAllAreStringsRow.laid) (fun F => ((OpenSpec.ofChange Rows.fnErrTellsWhetherAllAreStringsSpec).at F).post enc Tryf.prog Tryf.f5 false true false false) (aloneAtReturn Tryf.prog) nothingAlways := by
  refine returnsInTold_of_row (C := Tryf.checked) (s := OpenSpec.ofChange Rows.fnErrTellsWhetherAllAreStringsSpec) (by kernel_rfl) Tryf.own started (by kernel_rfl) Tryf.func5
    (OpenSpec.witness_stopped_atRef (enc := enc) (C := Tryf.checked) false (World.doorLaid Tryf.prog 85 os) #[.slice none 0 0, .string ⟨#[]⟩] rfl (by kernel_rfl) (by kernel_rfl) (by kernel_rfl)
      (OpenSpec.preRow_of_B rfl 8 (by kernel_rfl) (by kernel_rfl) (door_met os _))) ?_
  intro F W base args ds gs before _ hF hval0 hW _ _ _ hL _
  have hval : ∀ (j : Nat) t v, Tryf.f5.params[j]? = some t → args[j]? = some v → Value.okWide Tryf.prog W .any base t v := hval0
  have hW' := hW
  obtain ⟨p, q, hA0, hV0, rfl, hfz, hnd⟩ := hW
  have hA : DataW.TrodAll enc Tryf.prog W 0 (fun _ => true) true Tryf.f5.params.toList args.toList ds p := hA0
  have hV : DataW.TrodVars enc Tryf.prog W (fun _ => true) ["example.com/scoutwire/scoutwire/internal/rlp.ErrNotString", "example.com/scoutwire/scoutwire/internal/rlp.ErrTruncated", "example.com/scoutwire/scoutwire/internal/rlp.ErrNonCanonical"] gs q := hV0
  rw [Tryf.params5] at hA hval
  obtain ⟨v0, vs0, d0, ds0, p0, q0, hargs, rfl, rfl, h0, r0⟩ := trodAll_cons hA
  obtain ⟨v1, vs1, d1, ds1, p1, q1, rfl, rfl, rfl, h1, r1⟩ := trodAll_cons r0
  obtain ⟨rfl, rfl, rfl⟩ := trodAll_nil r1
  obtain rfl : args = #[v0, v1] := by cases args; simp_all
  obtain ⟨a0, len0, cap0, rfl⟩ := okWide_slice Tryf.underlying22 (hval 0 22 v0 rfl rfl)
  have k0 := h0
  have lt0 : ∀ x ∈ p0, x.block < W.heap.size := by obtain ⟨m, hm⟩ := k0; exact DataW.trod_lt m _ _ _ hm
  obtain ⟨Z0, b0, m0, nil0, w0⟩ := open_bytes h0
  obtain ⟨a1, rfl, rfl, rfl, w1⟩ := open_string Tryf.underlying9 (hval 1 9 v1 rfl rfl) h1
  obtain ⟨aErrTruncated, sErrTruncated, hvErrTruncated, hcErrTruncated, _, _⟩ := laid_sentinel hL gname3 gtype3 Tryf.underlying30 row66 Tryf.underlying66 Tryf.underlying68 rfl rfl Tryf.underlying9 (by kernel_rfl) (by kernel_rfl)
  obtain ⟨aErrNonCanonical, sErrNonCanonical, hvErrNonCanonical, hcErrNonCanonical, _, _⟩ := laid_sentinel hL.tail gname0 gtype0 Tryf.underlying30 row66 Tryf.underlying66 Tryf.underlying68 rfl rfl Tryf.underlying9 (by kernel_rfl) (by kernel_rfl)
  obtain ⟨aErrNotString, sErrNotString, hvErrNotString, hcErrNotString, _, _⟩ := laid_sentinel hL.tail.tail gname1 gtype1 Tryf.underlying30 row66 Tryf.underlying66 Tryf.underlying68 rfl rfl Tryf.underlying9 (by kernel_rfl) (by kernel_rfl)
  have vr : ∀ {X : World}, X.var? Tryf.prog "example.com/scoutwire/scoutwire/internal/rlp.ErrNotString" = some #[.iface 66 (.pointer (some aErrNotString))] → X.var? Tryf.prog "example.com/scoutwire/scoutwire/internal/rlp.ErrTruncated" = some #[.iface 66 (.pointer (some aErrTruncated))] → X.var? Tryf.prog "example.com/scoutwire/scoutwire/internal/rlp.ErrNonCanonical" = some #[.iface 66 (.pointer (some aErrNonCanonical))] → ∀ sp : Nat → Bool,
      DataW.TrodVars enc Tryf.prog X sp ["example.com/scoutwire/scoutwire/internal/rlp.ErrNotString", "example.com/scoutwire/scoutwire/internal/rlp.ErrTruncated", "example.com/scoutwire/scoutwire/internal/rlp.ErrNonCanonical"] [tok enc (.iface 66 (.pointer (some aErrNotString))), tok enc (.iface 66 (.pointer (some aErrTruncated))), tok enc (.iface 66 (.pointer (some aErrNonCanonical)))] [.cell 1 0, .cell 3 0, .cell 0 0] :=
    fun x0 x1 x2 sp => vars_read3 enc gname1 gtype1 Tryf.underlying30 x0 trivial gname3 gtype3 Tryf.underlying30 x1 trivial gname0 gtype0 Tryf.underlying30 x2 trivial sp
  obtain ⟨rfl, rfl⟩ := hV.unique (vr hvErrNotString hvErrTruncated hvErrNonCanonical _)
  clear hA0 hV0 hval0
  have hg4 : 4 ≤ W.heap.size := by
    have := World.block_lt_of_cell? W ⟨3, 0, none⟩ (globals4 gname3 hvErrTruncated hcErrTruncated).choose_spec.1
    simp only at this
    omega
  have hE : Errs W W.heap.size := ⟨hg4, globals4 gname0 hvErrNonCanonical hcErrNonCanonical, globals4 gname1 hvErrNotString hcErrNotString, globals4 gname3 hvErrTruncated hcErrTruncated⟩
  refine (law5 F.told a0 len0 cap0 Z0 a1 W hF hE b0 m0 w1 nil0 w0).mono fun e W' ⟨he, bel⟩ => ?_
  subst he
  refine ⟨_, rfl, _, _, _, [], _, [.cell 1 0, .cell 3 0, .cell 0 0], hW', trodAll_mk1 (shut_bool Tryf.underlying4 _), (trodAll_cons_mk (Below.trod Tryf.laidOut' (by kernel_rfl) (of_decide_eq_true (by kernel_rfl)) k0 bel lt0) (trodAll_cons_mk (shut_string Tryf.underlying9 w1) trodAll_mk0)), ?_, bel.frame _, fun h => by cases h⟩
  exact vr (var?_below bel gname1 (by omega) hvErrNotString) (var?_below bel gname3 (by omega) hvErrTruncated) (var?_below bel gname0 (by omega) hvErrNonCanonical) _

theorem card : Rows.FnErrTellsWhetherAllAreStringsToldSaid :=
  Claim7.holds_of_told_tied_any_at .later 5 Tryf.f5 "fmt.errorf" [] [] _ _ _ _ _ (by kernel_rfl) rfl rfl rfl Tryf.laidOut (by kernel_rfl) rfl ⟨rfl, rfl, rfl, rfl, rfl, rfl, rfl⟩ rfl rfl (by kernel_rfl) (by kernel_rfl) Tryf.func5 (by kernel_rfl)
    (of_decide_eq_true (by kernel_rfl)) (by unfold Func.isWrapper; first | (rw [if_pos (by decide +kernel)]; kernel_rfl) | (rw [if_neg (by decide +kernel)]; exact ⟨rfl, rfl⟩)) Tryf.stops.symm rfl Tryf.stopKnobs.symm (by kernel_rfl)
    (by kernel_rfl) (by kernel_rfl) (by kernel_rfl) (by kernel_rfl) (by kernel_rfl) (by kernel_rfl) (by kernel_rfl) (by kernel_rfl) (by kernel_rfl) rfl (by kernel_rfl) rfl rfl
    rfl rfl
    rfl (by kernel_rfl) (by kernel_rfl) (by kernel_rfl) (by decide) (by kernel_rfl) fnErrTellsWhetherAllAreStrings_row_tie
    (OpenClaim.moreEntering_of (by kernel_rfl) (by kernel_rfl) (by kernel_rfl) (by kernel_rfl) (by kernel_rfl) (by kernel_rfl) (by kernel_rfl) (by kernel_rfl) (by kernel_rfl) (by kernel_rfl))
    ⟨_, WideRow.started_initial, Tryf.quiet _⟩
    (fun os started _ H enc _ => lifted os started H enc)
end Go.Proofs.Qxb6604339aFmt.fnErrTellsWhetherAllAreStrings
namespace Go.Proofs.Qxb6604339aFmt
/-- THE STATEMENT -/
theorem fnErrTellsWhetherAllAreStrings_proved : Rows.FnErrTellsWhetherAllAreStringsToldSaid := fnErrTellsWhetherAllAreStrings.card
end Go.Proofs.Qxb6604339aFmt
