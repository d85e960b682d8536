/- The row's step and the card 'Rows.FnErrMixedScriptToldSaid'. -/
import Derived.Test.Qxb6604339aFmtKit
import Derived.Test.Qxb6604339aFmtLaw6
namespace Go.Proofs.Qxb6604339aFmt.fnErrMixedScript
open Go.ChangeShapes Go.WideShapes Go.ChangeAt Go.RowKit
open Go.ChangeMaps (open_string shut_string)
open Go.Extern.Stop Go.Stop Go.Extern

theorem door_met (os : Os) (args : Array Value) : laidMetH Tryf.prog Rows.fnErrMixedScriptRow.laid ((World.doorLaid Tryf.prog 85 os).forCall (fun _ _ => 0) ⟨#[], args, []⟩).memory :=
  laidMetH_of_parts3 (fuel := 8) (laidMet_of_run' 8 (by kernel_rfl) (by kernel_rfl)) (by kernel_rfl) (by kernel_rfl)

set_option maxRecDepth 100000 in
set_option maxHeartbeats 1000000 in
theorem lifted (os : Os) (started : os.Started) (H : Type) (enc : TypeId × Value → H) :
    ReturnsInTold none {} Tryf.checked os 6 .any Input.okWide ((OpenSpec.ofChange Rows.fnErrMixedScriptSpec).preRow enc Tryf.prog Tryf.f6 Rows.fnErrMixedScriptRow.domain false Rows.fnErrMixedScriptRow.laid) (fun F => ((OpenSpec.ofChange Rows.fnErrMixedScriptSpec).at F).post enc Tryf.prog Tryf.f6 false true false false) (aloneAtReturn Tryf.prog) nothingAlways := by
  refine returnsInTold_of_row (C := Tryf.checked) (s := OpenSpec.ofChange Rows.fnErrMixedScriptSpec) (by kernel_rfl) Tryf.own started (by kernel_rfl) Tryf.func6
    (OpenSpec.witness_stopped_atRef (enc := enc) (C := Tryf.checked) false (World.doorLaid Tryf.prog 85 os) #[.slice none 0 0, .int .u64 0, .string ⟨#[]⟩] rfl (by kernel_rfl) (by kernel_rfl) (by kernel_rfl)
      (OpenSpec.preRow_of_B rfl 8 (by kernel_rfl) (by kernel_rfl) (door_met os _))) ?_
  intro F W base args ds gs before _ hF hval0 hW _ _ _ hL _
  have hval : ∀ (j : Nat) t v, Tryf.f6.params[j]? = some t → args[j]? = some v → Value.okWide Tryf.prog W .any base t v := hval0
  have hW' := hW
  obtain ⟨p, q, hA0, hV0, rfl, hfz, hnd⟩ := hW
  have hA : DataW.TrodAll enc Tryf.prog W 0 (fun _ => true) true Tryf.f6.params.toList args.toList ds p := hA0
  have hV : DataW.TrodVars enc Tryf.prog W (fun _ => true) ["example.com/scoutwire/scoutwire/internal/rlp.ErrUintOverflow", "example.com/scoutwire/scoutwire/internal/rlp.ErrNonCanonical", "example.com/scoutwire/scoutwire/internal/rlp.ErrNotString", "example.com/scoutwire/scoutwire/internal/rlp.ErrTruncated"] gs q := hV0
  rw [Tryf.params6] at hA hval
  obtain ⟨v0, vs0, d0, ds0, p0, q0, hargs, rfl, rfl, h0, r0⟩ := trodAll_cons hA
  obtain ⟨v1, vs1, d1, ds1, p1, q1, rfl, rfl, rfl, h1, r1⟩ := trodAll_cons r0
  obtain ⟨v2, vs2, d2, ds2, p2, q2, rfl, rfl, rfl, h2, r2⟩ := trodAll_cons r1
  obtain ⟨rfl, rfl, rfl⟩ := trodAll_nil r2
  obtain rfl : args = #[v0, v1, v2] := by cases args; simp_all
  obtain ⟨a0, len0, cap0, rfl⟩ := okWide_slice Tryf.underlying22 (hval 0 22 v0 rfl rfl)
  have k0 := h0
  have lt0 : ∀ x ∈ p0, x.block < W.heap.size := by obtain ⟨m, hm⟩ := k0; exact DataW.trod_lt m _ _ _ hm
  obtain ⟨Z0, b0, m0, nil0, w0⟩ := open_bytes h0
  obtain ⟨a1, rfl, rfl, rfl, w1⟩ := open_int Tryf.underlying34 (hval 1 34 v1 rfl rfl) h1
  obtain ⟨a2, rfl, rfl, rfl, w2⟩ := open_string Tryf.underlying9 (hval 2 9 v2 rfl rfl) h2
  obtain ⟨aErrTruncated, sErrTruncated, hvErrTruncated, hcErrTruncated, _, _⟩ := laid_sentinel hL gname3 gtype3 Tryf.underlying30 row66 Tryf.underlying66 Tryf.underlying68 rfl rfl Tryf.underlying9 (by kernel_rfl) (by kernel_rfl)
  obtain ⟨aErrNonCanonical, sErrNonCanonical, hvErrNonCanonical, hcErrNonCanonical, _, _⟩ := laid_sentinel hL.tail gname0 gtype0 Tryf.underlying30 row66 Tryf.underlying66 Tryf.underlying68 rfl rfl Tryf.underlying9 (by kernel_rfl) (by kernel_rfl)
  obtain ⟨aErrNotString, sErrNotString, hvErrNotString, hcErrNotString, _, _⟩ := laid_sentinel hL.tail.tail gname1 gtype1 Tryf.underlying30 row66 Tryf.underlying66 Tryf.underlying68 rfl rfl Tryf.underlying9 (by kernel_rfl) (by kernel_rfl)
  obtain ⟨aErrUintOverflow, sErrUintOverflow, hvErrUintOverflow, hcErrUintOverflow, _, _⟩ := laid_sentinel hL.tail.tail.tail gname2 gtype2 Tryf.underlying30 row66 Tryf.underlying66 Tryf.underlying68 rfl rfl Tryf.underlying9 (by kernel_rfl) (by kernel_rfl)
  have vr : ∀ {X : World}, X.var? Tryf.prog "example.com/scoutwire/scoutwire/internal/rlp.ErrUintOverflow" = some #[.iface 66 (.pointer (some aErrUintOverflow))] → X.var? Tryf.prog "example.com/scoutwire/scoutwire/internal/rlp.ErrNonCanonical" = some #[.iface 66 (.pointer (some aErrNonCanonical))] → X.var? Tryf.prog "example.com/scoutwire/scoutwire/internal/rlp.ErrNotString" = some #[.iface 66 (.pointer (some aErrNotString))] → X.var? Tryf.prog "example.com/scoutwire/scoutwire/internal/rlp.ErrTruncated" = some #[.iface 66 (.pointer (some aErrTruncated))] → ∀ sp : Nat → Bool,
      DataW.TrodVars enc Tryf.prog X sp ["example.com/scoutwire/scoutwire/internal/rlp.ErrUintOverflow", "example.com/scoutwire/scoutwire/internal/rlp.ErrNonCanonical", "example.com/scoutwire/scoutwire/internal/rlp.ErrNotString", "example.com/scoutwire/scoutwire/internal/rlp.ErrTruncated"] [tok enc (.iface 66 (.pointer (some aErrUintOverflow))), tok enc (.iface 66 (.pointer (some aErrNonCanonical))), tok enc (.iface 66 (.pointer (some aErrNotString))), tok enc (.iface 66 (.pointer (some aErrTruncated)))] [.cell 2 0, .cell 0 0, .cell 1 0, .cell 3 0] :=
    fun x0 x1 x2 x3 sp => vars_read4 enc gname2 gtype2 Tryf.underlying30 x0 trivial gname0 gtype0 Tryf.underlying30 x1 trivial gname1 gtype1 Tryf.underlying30 x2 trivial gname3 gtype3 Tryf.underlying30 x3 trivial sp
  obtain ⟨rfl, rfl⟩ := hV.unique (vr hvErrUintOverflow hvErrNonCanonical hvErrNotString hvErrTruncated _)
  clear hA0 hV0 hval0
  have hg4 : 4 ≤ W.heap.size := by
    have := World.block_lt_of_cell? W ⟨3, 0, none⟩ (globals4 gname3 hvErrTruncated hcErrTruncated).choose_spec.1
    simp only at this
    omega
  have hE : Errs W W.heap.size := ⟨hg4, globals4 gname0 hvErrNonCanonical hcErrNonCanonical, globals4 gname1 hvErrNotString hcErrNotString, globals4 gname3 hvErrTruncated hcErrTruncated⟩
  have hU : ErrU W W.heap.size := ⟨hg4, globals4 gname2 hvErrUintOverflow hcErrUintOverflow⟩
  refine (law6n F.told a0 len0 cap0 a1 Z0 a2 W hF hE hU (bd64' w1) b0 m0 w2 nil0 w0).mono fun e W' ⟨he, bel⟩ => ?_
  subst he
  refine ⟨_, rfl, _, _, _, [], _, [.cell 2 0, .cell 0 0, .cell 1 0, .cell 3 0], hW', trodAll_mk1 (shut_bool Tryf.underlying4 _), (trodAll_cons_mk (Below.trod Tryf.laidOut' (by kernel_rfl) (of_decide_eq_true (by kernel_rfl)) k0 bel lt0) (trodAll_cons_mk (shut_int Tryf.underlying34 w1) (trodAll_cons_mk (shut_string Tryf.underlying9 w2) trodAll_mk0))), ?_, bel.frame _, fun h => by cases h⟩
  exact vr (var?_below bel gname2 (by omega) hvErrUintOverflow) (var?_below bel gname0 (by omega) hvErrNonCanonical) (var?_below bel gname1 (by omega) hvErrNotString) (var?_below bel gname3 (by omega) hvErrTruncated) _

theorem card : Rows.FnErrMixedScriptToldSaid :=
  Claim7.holds_of_told_tied_any_at .later 6 Tryf.f6 "fmt.errorf" [] [] _ _ _ _ _ (by kernel_rfl) rfl rfl rfl Tryf.laidOut (by kernel_rfl) rfl ⟨rfl, rfl, rfl, rfl, rfl, rfl, rfl⟩ rfl rfl (by kernel_rfl) (by kernel_rfl) Tryf.func6 (by kernel_rfl)
    (of_decide_eq_true (by kernel_rfl)) (by unfold Func.isWrapper; first | (rw [if_pos (by decide +kernel)]; kernel_rfl) | (rw [if_neg (by decide +kernel)]; exact ⟨rfl, rfl⟩)) Tryf.stops.symm rfl Tryf.stopKnobs.symm (by kernel_rfl)
    (by kernel_rfl) (by kernel_rfl) (by kernel_rfl) (by kernel_rfl) (by kernel_rfl) (by kernel_rfl) (by kernel_rfl) (by kernel_rfl) (by kernel_rfl) rfl (by kernel_rfl) rfl rfl
    rfl rfl
    rfl (by kernel_rfl) (by kernel_rfl) (by kernel_rfl) (by decide) (by kernel_rfl) fnErrMixedScript_row_tie
    (OpenClaim.moreEntering_of (by kernel_rfl) (by kernel_rfl) (by kernel_rfl) (by kernel_rfl) (by kernel_rfl) (by kernel_rfl) (by kernel_rfl) (by kernel_rfl) (by kernel_rfl) (by kernel_rfl))
    ⟨_, WideRow.started_initial, Tryf.quiet _⟩
    (fun os started _ H enc _ => lifted os started H enc)
end Go.Proofs.Qxb6604339aFmt.fnErrMixedScript
namespace Go.Proofs.Qxb6604339aFmt
/-- THE STATEMENT -/
theorem fnErrMixedScript_proved : Rows.FnErrMixedScriptToldSaid := fnErrMixedScript.card
end Go.Proofs.Qxb6604339aFmt
