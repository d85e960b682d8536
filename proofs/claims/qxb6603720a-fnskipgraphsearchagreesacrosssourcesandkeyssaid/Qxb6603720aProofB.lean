/- The row's step and the statement 'Rows.FnSkipGraphSearchAgreesAcrossSourcesAndKeysSaid'. -/
import Derived.Test.Qxb6603720aRows
import Derived.Test.Qxb6603720aLawB
import Derived.WalkKit
import Derived.ProofKit
import Derived.OpenShut
import Derived.ShutString
import Derived.ChangeOld
import Derived.Below
import Derived.Deep.Strs
namespace Go.Proofs.Qxb6603720a.fnSkipGraphSearchAgreesAcrossSourcesAndKeys
open Go.ChangeShapes Go.WideShapes Go.ChangeAt Go.RowKit Go.Deep
open Go.ChangeMaps (open_string shut_string)
set_option linter.unusedVariables false

theorem own : ownKnob Try.prog.godebug = none := by kernel_rfl
theorem laidOut : laidOutB Try.prog = true := by kernel_rfl

theorem bd32 {n : Int} (h : (Lit.int .i32 n).wf = true) : -2147483648 ≤ n ∧ n ≤ 2147483647 := by
  simp [Lit.wf, IntKind.min, IntKind.max, IntKind.signed, IntKind.bits] at h
  omega
theorem mem_getD {zs : List Int} {i : Nat} (h : i < zs.length) : zs.getD i 0 ∈ zs := by
  rw [List.getD_eq_getElem?_getD, List.getElem?_eq_getElem h]
  exact List.getElem_mem h

set_option maxRecDepth 100000 in
theorem lifted (os : Os) (started : os.Started) (H : Type) (enc : TypeId × Value → H) :
    ReturnsInHanded {} Try.checked os 7 .any (Rows.fnSkipGraphSearchAgreesAcrossSourcesAndKeysSpec.pre6 enc Try.prog Try.f7 Rows.fnSkipGraphSearchAgreesAcrossSourcesAndKeysRow.domain false) (Rows.fnSkipGraphSearchAgreesAcrossSourcesAndKeysSpec.post enc Try.prog Try.f7 false true false false) := by
  refine returnsInHanded_of_change (C := Try.checked) own started (by kernel_rfl) Try.func7
    (ChangeSpec.witness6 (enc := enc) (C := Try.checked) false ⟨#[], #[.slice none 0 0, .slice none 0 0, .slice none 0 0, .slice none 0 0, .int .i64 0, .string ByteArray.empty, .int .i64 0, .string ByteArray.empty], []⟩ 8 (by kernel_rfl) (by kernel_rfl) (by kernel_rfl) (by kernel_rfl)) ?_
  intro W base args ds gs before hval0 hW hcnd _
  have hval : ∀ (j : Nat) t v, Try.f7.params[j]? = some t → args[j]? = some v → Value.okWide Try.prog W .any base t v := hval0
  have hW' := hW
  obtain ⟨p, q, hA0, hV, rfl, hfz, hnd⟩ := hW
  have hA : DataW.TrodAll enc Try.prog W 0 (fun _ => true) true Try.f7.params.toList args.toList ds p := hA0
  rw [Try.params7] at hA hval
  obtain ⟨v0, vs0, d0, ds0, p0, q0, hargs, rfl, rfl, h0, r0⟩ := trodAll_cons hA
  obtain ⟨v1, vs1, d1, ds1, p1, q1, rfl, rfl, rfl, h1, r1⟩ := trodAll_cons r0
  obtain ⟨v2, vs2, d2, ds2, p2, q2, rfl, rfl, rfl, h2, r2⟩ := trodAll_cons r1
  obtain ⟨v3, vs3, d3, ds3, p3, q3, rfl, rfl, rfl, h3, r3⟩ := trodAll_cons r2
  obtain ⟨v4, vs4, d4, ds4, p4, q4, rfl, rfl, rfl, h4, r4⟩ := trodAll_cons r3
  obtain ⟨v5, vs5, d5, ds5, p5, q5, rfl, rfl, rfl, h5, r5⟩ := trodAll_cons r4
  obtain ⟨v6, vs6, d6, ds6, p6, q6, rfl, rfl, rfl, h6, r6⟩ := trodAll_cons r5
  obtain ⟨v7, vs7, d7, ds7, p7, q7, rfl, rfl, rfl, h7, r7⟩ := trodAll_cons r6
  obtain ⟨rfl, rfl, rfl⟩ := trodAll_nil r7
  obtain rfl : args = #[v0, v1, v2, v3, v4, v5, v6, v7] := by cases args; simp_all
  obtain ⟨rfl, rfl⟩ := trodVars_none hV
  obtain ⟨a0, len0, cap0, rfl⟩ := okWide_slice Try.underlying32 (hval 0 32 v0 rfl rfl)
  have k0 := h0
  have lt0 : ∀ x ∈ p0, x.block < W.heap.size := by obtain ⟨m, hm⟩ := k0; exact DataW.trod_lt m _ _ _ hm
  obtain ⟨Z0, m0, nil0, w0⟩ : ∃ Z, len0 ≤ maxLen ∧ (a0 = none → cap0 = 0) ∧ SRow W a0 len0 Z := by
    obtain ⟨fuel, hf⟩ := h0
    rcases open_strs Try.underlying32 Try.underlying9 (by kernel_rfl) hf with ⟨hcs, _⟩ | ⟨x, l, c, m, Sx, hcs, _, hl, hm, hz, _, hcell⟩
    · simp [Value.cells] at hcs
      obtain ⟨rfl, rfl, rfl⟩ := hcs
      exact ⟨fun _ => ByteArray.empty, Nat.zero_le _, fun _ => rfl, ⟨fun _ => rfl, fun x hx => by cases hx⟩⟩
    · simp [Value.cells] at hcs
      obtain ⟨rfl, rfl, rfl⟩ := hcs
      have hz' : m = cap0 := by simpa using hz
      exact ⟨Sx, Nat.le_trans hl hm, fun h => (by cases h), ⟨fun h => (by cases h), fun y hy i hi => by cases hy; exact (hcell i (by omega)).1⟩⟩
  obtain ⟨a1, len1, cap1, rfl⟩ := okWide_slice Try.underlying25 (hval 1 25 v1 rfl rfl)
  have k1 := h1
  have lt1 : ∀ x ∈ p1, x.block < W.heap.size := by obtain ⟨m, hm⟩ := k1; exact DataW.trod_lt m _ _ _ hm
  obtain ⟨Z1, m1, nil1, w1⟩ : ∃ Z, len1 ≤ maxLen ∧ (a1 = none → cap1 = 0) ∧ IRow .i64 W a1 len1 Z := by
    obtain ⟨fuel, hf⟩ := h1
    rcases open_ints Try.underlying25 Try.underlying3 (by kernel_rfl) hf with ⟨hcs, _⟩ | ⟨x, l, c, zs, hcs, _, hl, hm, hz, _, hcell, hwz⟩
    · simp [Value.cells] at hcs
      obtain ⟨rfl, rfl, rfl⟩ := hcs
      exact ⟨fun _ => 0, Nat.zero_le _, fun _ => rfl, ⟨fun _ => rfl, fun x hx => by cases hx⟩⟩
    · simp [Value.cells] at hcs
      obtain ⟨rfl, rfl, rfl⟩ := hcs
      have hz' : zs.length = cap1 := by simpa using hz
      exact ⟨fun i => zs.getD i 0, Nat.le_trans hl hm, fun h => (by cases h), ⟨fun h => (by cases h), fun y hy i hi => by cases hy; exact hcell i (by omega)⟩⟩
  obtain ⟨a2, len2, cap2, rfl⟩ := okWide_slice Try.underlying24 (hval 2 24 v2 rfl rfl)
  have k2 := h2
  have lt2 : ∀ x ∈ p2, x.block < W.heap.size := by obtain ⟨m, hm⟩ := k2; exact DataW.trod_lt m _ _ _ hm
  obtain ⟨Z2, m2, nil2, w2, b2⟩ : ∃ Z, len2 ≤ maxLen ∧ (a2 = none → cap2 = 0) ∧ IRow .i32 W a2 len2 Z ∧ ∀ i, i < len2 → -2147483648 ≤ Z i ∧ Z i ≤ 2147483647 := by
    obtain ⟨fuel, hf⟩ := h2
    rcases open_ints Try.underlying24 Try.underlying21 (by kernel_rfl) hf with ⟨hcs, _⟩ | ⟨x, l, c, zs, hcs, _, hl, hm, hz, _, hcell, hwz⟩
    · simp [Value.cells] at hcs
      obtain ⟨rfl, rfl, rfl⟩ := hcs
      exact ⟨fun _ => 0, Nat.zero_le _, fun _ => rfl, ⟨fun _ => rfl, fun x hx => by cases hx⟩, fun i hi => absurd hi (Nat.not_lt_zero _)⟩
    · simp [Value.cells] at hcs
      obtain ⟨rfl, rfl, rfl⟩ := hcs
      have hz' : zs.length = cap2 := by simpa using hz
      exact ⟨fun i => zs.getD i 0, Nat.le_trans hl hm, fun h => (by cases h), ⟨fun h => (by cases h), fun y hy i hi => by cases hy; exact hcell i (by omega)⟩, fun i hi => bd32 (hwz _ (mem_getD (by omega)))⟩
  obtain ⟨a3, len3, cap3, rfl⟩ := okWide_slice Try.underlying24 (hval 3 24 v3 rfl rfl)
  have k3 := h3
  have lt3 : ∀ x ∈ p3, x.block < W.heap.size := by obtain ⟨m, hm⟩ := k3; exact DataW.trod_lt m _ _ _ hm
  obtain ⟨Z3, m3, nil3, w3, b3⟩ : ∃ Z, len3 ≤ maxLen ∧ (a3 = none → cap3 = 0) ∧ IRow .i32 W a3 len3 Z ∧ ∀ i, i < len3 → -2147483648 ≤ Z i ∧ Z i ≤ 2147483647 := by
    obtain ⟨fuel, hf⟩ := h3
    rcases open_ints Try.underlying24 Try.underlying21 (by kernel_rfl) hf with ⟨hcs, _⟩ | ⟨x, l, c, zs, hcs, _, hl, hm, hz, _, hcell, hwz⟩
    · simp [Value.cells] at hcs
      obtain ⟨rfl, rfl, rfl⟩ := hcs
      exact ⟨fun _ => 0, Nat.zero_le _, fun _ => rfl, ⟨fun _ => rfl, fun x hx => by cases hx⟩, fun i hi => absurd hi (Nat.not_lt_zero _)⟩
    · simp [Value.cells] at hcs
      obtain ⟨rfl, rfl, rfl⟩ := hcs
      have hz' : zs.length = cap3 := by simpa using hz
      exact ⟨fun i => zs.getD i 0, Nat.le_trans hl hm, fun h => (by cases h), ⟨fun h => (by cases h), fun y hy i hi => by cases hy; exact hcell i (by omega)⟩, fun i hi => bd32 (hwz _ (mem_getD (by omega)))⟩
  obtain ⟨a4, rfl, rfl, rfl, w4⟩ := open_int Try.underlying3 (hval 4 3 v4 rfl rfl) h4
  obtain ⟨a5, rfl, rfl, rfl, w5⟩ := open_string Try.underlying9 (hval 5 9 v5 rfl rfl) h5
  obtain ⟨a6, rfl, rfl, rfl, w6⟩ := open_int Try.underlying3 (hval 6 3 v6 rfl rfl) h6
  obtain ⟨a7, rfl, rfl, rfl, w7⟩ := open_string Try.underlying9 (hval 7 9 v7 rfl rfl) h7
  clear hA0 hval0
  refine (law7 a0 a1 a2 a3 len0 len1 len2 len3 cap0 cap1 cap2 cap3 Z0 Z1 Z2 Z3 a4 a5 a6 a7 W m0 m1 m2 m3 w5 w7 nil0 nil1 nil2 nil3 w0 w1 w2 w3 b2 b3).mono fun e W' ⟨he, bel⟩ => ?_
  subst he
  exact ⟨_, rfl, _, _, _, [], _, [], hW', trodAll_mk1 (shut_bool Try.underlying4 _), (trodAll_cons_mk (Below.trod laidOut (by kernel_rfl) (of_decide_eq_true (by kernel_rfl)) k0 bel lt0) (trodAll_cons_mk (Below.trod laidOut (by kernel_rfl) (of_decide_eq_true (by kernel_rfl)) k1 bel lt1) (trodAll_cons_mk (Below.trod laidOut (by kernel_rfl) (of_decide_eq_true (by kernel_rfl)) k2 bel lt2) (trodAll_cons_mk (Below.trod laidOut (by kernel_rfl) (of_decide_eq_true (by kernel_rfl)) k3 bel lt3) (trodAll_cons_mk (shut_int Try.underlying3 w4) (trodAll_cons_mk (shut_string Try.underlying9 w5) (trodAll_cons_mk (shut_int Try.underlying3 w6) (trodAll_cons_mk (shut_string Try.underlying9 w7) trodAll_mk0)))))))), rfl, bel.frame _, fun h => by cases h⟩

theorem over : Rows.fnSkipGraphSearchAgreesAcrossSourcesAndKeysRow.holds Try.pinned (OpenSpec.ofChange Rows.fnSkipGraphSearchAgreesAcrossSourcesAndKeysSpec) :=
  OpenClaim.holds_of_wide 7 Try.f7 rfl rfl rfl rfl rfl rfl rfl ⟨rfl, rfl, rfl, rfl, rfl⟩ rfl rfl rfl rfl rfl (by kernel_rfl) Try.func7 (by kernel_rfl)
    (of_decide_eq_true (by kernel_rfl)) (by unfold Func.isWrapper; first | (rw [if_pos (by decide +kernel)]; kernel_rfl) | (rw [if_neg (by decide +kernel)]; exact ⟨rfl, rfl⟩))
    (fun os started H enc _ => lifted os started H enc)

end Go.Proofs.Qxb6603720a.fnSkipGraphSearchAgreesAcrossSourcesAndKeys
namespace Go.Proofs.Qxb6603720a
/-- THE STATEMENT -/
theorem fnSkipGraphSearchAgreesAcrossSourcesAndKeys_proved : Rows.FnSkipGraphSearchAgreesAcrossSourcesAndKeysSaid := fnSkipGraphSearchAgreesAcrossSourcesAndKeys.over
end Go.Proofs.Qxb6603720a
