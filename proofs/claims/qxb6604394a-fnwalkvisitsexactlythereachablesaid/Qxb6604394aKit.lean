/- What both rows' steps want: a []uint32 and a [][]uint32 that came in. -/
import Derived.Test.Qxb6604394aRows
import Derived.Test.Qxb6604394aMem
import Derived.WalkKit
import Derived.ProofKit
import Derived.OpenShut
import Derived.ShutString
import Derived.ChangeOld
import Derived.Below
import Derived.Deep.Matrix
namespace Go.Proofs.Qxb6604394a
open Go.ChangeShapes Go.WideShapes Go.ChangeAt Go.RowKit Go.Deep

theorem own : ownKnob Try.prog.godebug = none := by kernel_rfl
theorem laidOut : laidOutB Try.prog = true := by kernel_rfl
theorem bd32u {n : Int} (h : (Lit.int .u32 n).wf = true) : 0 ≤ n ∧ n ≤ 4294967295 := by
  simp [Lit.wf, IntKind.min, IntKind.max, IntKind.signed, IntKind.bits] at h
  omega
theorem mem_getD {zs : List Int} {i : Nat} (h : i < zs.length) : zs.getD i 0 ∈ zs := by
  rw [List.getD_eq_getElem?_getD, List.getElem?_eq_getElem h]
  exact List.getElem_mem h
theorem getD_lt {zs : List Int} (h : ∀ n ∈ zs, (Lit.int .u32 n).wf = true) (i : Nat) : (zs.getD i 0).toNat < 4294967296 := by
  by_cases hi : i < zs.length
  · have := bd32u (h _ (mem_getD hi)); omega
  · rw [List.getD_eq_getElem?_getD, List.getElem?_eq_none (by omega)]; simp
theorem getD_val {zs : List Int} (h : ∀ n ∈ zs, (Lit.int .u32 n).wf = true) {i : Nat} (hi : i < zs.length) : Value.int .u32 (zs.getD i 0) = Value.int .u32 (((zs.getD i 0).toNat : Nat) : Int) := by
  have hb := bd32u (h _ (mem_getD hi))
  rw [Int.toNat_of_nonneg hb.1]
theorem open_u32s {H : Type} {enc : TypeId × Value → H} {W : World} {a : Option Addr} {len cap : Nat} {d : DataW H} {p : List MemPlace} (h : DataW.Trod enc Try.prog W 0 (fun _ => true) true 30 (.slice a len cap) d p) :
    ∃ L : Nat → Nat, Hid (∀ i, L i < 4294967296) ∧ len ≤ maxLen ∧ URow W a len L := by
  obtain ⟨fuel, hf⟩ := h
  rcases open_ints Try.underlying30 Try.underlying36 (by kernel_rfl) hf with ⟨hcs, _⟩ | ⟨x, l, c, zs, hcs, _, hl, hm, hz, _, hcell, hwz⟩
  · simp [Value.cells] at hcs
    obtain ⟨rfl, rfl, rfl⟩ := hcs
    exact ⟨fun _ => 0, fun _ => by simp, Nat.zero_le _, ⟨fun _ => rfl, fun x hx => by cases hx⟩⟩
  · simp [Value.cells] at hcs
    obtain ⟨rfl, rfl, rfl⟩ := hcs
    have hz' : zs.length = cap := by simpa using hz
    refine ⟨fun i => (zs.getD i 0).toNat, fun i => getD_lt hwz i, Nat.le_trans hl hm, ⟨fun h => (by cases h), fun y hy i hi => ?_⟩⟩
    cases hy
    rw [hcell i (by omega), getD_val hwz (by omega)]
theorem open_grid {H : Type} {enc : TypeId × Value → H} {W : World} {a : Option Addr} {len cap : Nat} {d : DataW H} {p : List MemPlace} (h : DataW.Trod enc Try.prog W 0 (fun _ => true) true 31 (.slice a len cap) d p) :
    ∃ (A : Nat → Option Addr) (L C : Nat → Nat) (Z : Nat → Nat → Nat), Hid (∀ i j, Z i j < 4294967296) ∧ len ≤ maxLen ∧ Hid (∀ i, i < len → L i ≤ maxLen) ∧ GRow W a len A L C Z := by
  obtain ⟨fuel, hf⟩ := h
  rcases open_int_rows Try.underlying31 Try.underlying30 Try.underlying36 (by kernel_rfl) (by kernel_rfl) hf with ⟨hcs, _⟩ | ⟨x, l, c, A, L, C, Z, hcs, _, hl, hm, _, hrow⟩
  · simp [Value.cells] at hcs
    obtain ⟨rfl, rfl, rfl⟩ := hcs
    exact ⟨fun _ => none, fun _ => 0, fun _ => 0, fun _ _ => 0, fun _ _ => by simp, Nat.zero_le _, fun i hi => absurd hi (Nat.not_lt_zero _), ⟨fun _ => rfl, fun x hx => (by cases hx), fun i hi => absurd hi (Nat.not_lt_zero _)⟩⟩
  · simp [Value.cells] at hcs
    obtain ⟨rfl, rfl, rfl⟩ := hcs
    refine ⟨A, L, C, fun i j => if i < cap then ((Z i).getD j 0).toNat else 0, fun i j => ?_, Nat.le_trans hl hm, fun i hi => ?_, ⟨fun h => (by cases h), fun y hy i hi => ?_, fun i hi => ⟨fun hA => ?_, fun y hy j hj => ?_⟩⟩⟩
    · show (if i < cap then ((Z i).getD j 0).toNat else 0) < 4294967296
      split
      · rename_i hi
        exact getD_lt (hrow i hi).2.2.2.2.1 j
      · omega
    · obtain ⟨_, h2, h3, _⟩ := hrow i (by omega)
      exact Nat.le_trans h2 h3
    · cases hy
      exact (hrow i (by omega)).1
    · obtain ⟨_, h2, _, _, _, h6, _⟩ := hrow i (by omega)
      have := h6 hA
      omega
    · obtain ⟨_, h2, h3, h4, h5, h6, h7⟩ := hrow i (by omega)
      rw [(h7 y hy).2 j (by omega), getD_val h5 (by omega)]
      show _ = some (Value.int .u32 (((if i < cap then ((Z i).getD j 0).toNat else 0) : Nat) : Int))
      rw [if_pos (by omega)]
end Go.Proofs.Qxb6604394a
