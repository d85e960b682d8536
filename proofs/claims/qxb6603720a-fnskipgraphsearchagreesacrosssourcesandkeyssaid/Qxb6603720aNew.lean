/- ZZNewSkipGraph: function 22. -/
import Derived.Test.Qxb6603720aClone
namespace Go.Proofs.Qxb6603720a
open Go.RowKit

/-- A cell of the row of bands. -/
def bandCell (P Q : Nat → Int) (j : Nat) : Value := if j % 3 = 0 then .int .i32 (P (j / 3)) else if j % 3 = 1 then .int .i32 (Q (j / 3)) else .int .u8 0
theorem bandCell0 (P Q : Nat → Int) (i : Nat) : bandCell P Q (i * 3) = .int .i32 (P i) := by
  have h1 : i * 3 % 3 = 0 := by omega
  have h2 : i * 3 / 3 = i := by omega
  simp [bandCell, h1, h2]
theorem bandCell1 (P Q : Nat → Int) (i : Nat) : bandCell P Q (i * 3 + 1) = .int .i32 (Q i) := by
  have h1 : (i * 3 + 1) % 3 = 1 := by omega
  have h2 : (i * 3 + 1) / 3 = i := by omega
  simp [bandCell, h1, h2]
def bandsTo (P Q : Nat → Int) (k j : Nat) : Value := if j < k * 3 then bandCell P Q j else bandCell (fun _ => 0) (fun _ => 0) j

theorem info47 : (Try.prog.info? 47).map (fun i => (i.zero, i.size, i.bytes)) = some (some (.agg #[.int .i32 0, .int .i32 0, .int .u8 0]), 3, 12) := by kernel_rfl
theorem make_bands (n : Nat) (hn : n ≤ 1048576) (w : World) : (Instr.makeSlice 45 (.int .i64 (n : Int)) (.int .i64 (n : Int))).run Try.prog w =
    .ok (.slice (some ⟨w.heap.size, 0, none⟩) n n) (w.alloc (.cells (madeCells #[.int .i32 0, .int .i32 0, .int .u8 0] (n * 3)) 47)) := by
  obtain ⟨i, hi, hzz⟩ := Option.map_eq_some_iff.1 info47
  simp only [Prod.mk.injEq] at hzz
  obtain ⟨hz, hs, hb⟩ := hzz
  have hr := run_make (P := Try.prog) w 45 47 i _ Try.underlying45 hi hz .i64 .i64 n n (by omega) (Int.le_refl _) (by rw [hb]; omega) (by omega)
  rw [hs] at hr
  simpa [Value.cells] using hr
theorem bands_made (w : World) (P Q : Nat → Int) (n : Nat) : (w.alloc (.cells (madeCells #[.int .i32 0, .int .i32 0, .int .u8 0] (n * 3)) 47)).rowIs w.heap.size 47 (n * 3) (bandsTo P Q 0) := by
  refine ⟨_, Deep.blk_alloc_new _ _, size_madeCells _ _, fun i hi => ?_⟩
  have : i % 3 = 0 ∨ i % 3 = 1 ∨ i % 3 = 2 := by omega
  rcases this with h | h | h <;> simp [madeCells, hi, bandsTo, bandCell, h]
theorem bands_step {w : World} {b n k : Nat} {P Q : Nat → Int} (h : w.rowIs b 47 (n * 3) (bandsTo P Q k)) :
    ((w.setCell ⟨b, k * 3, none⟩ (.int .i32 (P k))).setCell ⟨b, k * 3 + 1, none⟩ (.int .i32 (Q k))).rowIs b 47 (n * 3) (bandsTo P Q (k + 1)) :=
  ((h.set (k * 3) (.int .i32 (P k))).set (k * 3 + 1) (.int .i32 (Q k))).congr fun j _ => by
    show (if j = k * 3 + 1 then _ else if j = k * 3 then _ else bandsTo P Q k j) = bandsTo P Q (k + 1) j
    by_cases e1 : j = k * 3 + 1
    · subst e1; rw [if_pos rfl, bandsTo, if_pos (by omega), bandCell1]
    rw [if_neg e1]
    by_cases e2 : j = k * 3
    · subst e2; rw [if_pos rfl, bandsTo, if_pos (by omega), bandCell0]
    rw [if_neg e2]
    unfold bandsTo
    by_cases e3 : j < k * 3
    · rw [if_pos e3, if_pos (by omega)]
    rw [if_neg e3]
    by_cases e4 : j = k * 3 + 2
    · subst e4
      rw [if_pos (by omega)]
      have h1 : (k * 3 + 2) % 3 = 2 := by omega
      simp [bandCell, h1]
    · rw [if_neg (by omega)]
theorem bands_cell0 {w : World} {b n : Nat} {P Q : Nat → Int} {k : Nat} (h : w.rowIs b 47 (n * 3) (bandsTo P Q k)) {i : Nat} (hi : i < n) : ∃ z, w.cell? ⟨b, i * 3, none⟩ = some (.int .i32 z) := by
  have := h.cell (i := i * 3) (by omega)
  rw [bandsTo, bandCell0, bandCell0] at this
  split at this <;> exact ⟨_, this⟩
theorem bands_cell1 {w : World} {b n : Nat} {P Q : Nat → Int} {k : Nat} (h : w.rowIs b 47 (n * 3) (bandsTo P Q k)) {i : Nat} (hi : i < n) : ∃ z, w.cell? ⟨b, i * 3 + 1, none⟩ = some (.int .i32 z) := by
  have := h.cell (i := i * 3 + 1) (by omega)
  rw [bandsTo, bandCell1, bandCell1] at this
  split at this <;> exact ⟨_, this⟩

/-- The layer, as it lies in memory. -/
def Graph (w : World) (G n nb : Nat) (S : Nat → ByteArray) (B P Q : Nat → Int) : Prop :=
  ∃ sa sc ba bc bb, w.cell? ⟨G, 2, none⟩ = some (.slice sa n sc) ∧ SRow w sa n S ∧ w.cell? ⟨G, 5, none⟩ = some (.slice ba (n + 1) bc) ∧ IRow .i64 w ba (n + 1) B ∧
    w.cell? ⟨G, 6, none⟩ = some (.slice (some ⟨bb, 0, none⟩) nb nb) ∧ ∀ i, i < nb → w.cell? ⟨bb, i * 3, none⟩ = some (.int .i32 (P i)) ∧ w.cell? ⟨bb, i * 3 + 1, none⟩ = some (.int .i32 (Q i))
theorem Graph.below {w w' : World} {G n nb : Nat} {S : Nat → ByteArray} {B P Q : Nat → Int} (h : Graph w G n nb S B P Q) (hb : Below w.heap.size w w') : Graph w' G n nb S B P Q := by
  obtain ⟨sa, sc, ba, bc, bb, h1, h2, h3, h4, h5, h6⟩ := h
  exact ⟨sa, sc, ba, bc, bb, cell_below hb h1, h2.below hb, cell_below hb h3, h4.below hb, cell_below hb h5, fun i hi => ⟨cell_below hb (h6 i hi).1, cell_below hb (h6 i hi).2⟩⟩

set_option maxHeartbeats 400000 in
theorem new_any (sa ba pa qa : Option Addr) (n nb sc bc pc qc : Nat) (S : Nat → ByteArray) (B P Q : Nat → Int) (w : World) (hn : nb ≤ 1048576)
    (hS : SRow w sa n S) (hB : IRow .i64 w ba (n + 1) B) (hP : IRow .i32 w pa nb P) (hQ : IRow .i32 w qa nb Q) :
    Calls Try.prog 22 #[.slice sa n sc, .slice ba (n + 1) bc, .slice pa nb pc, .slice qa nb qc] w fun e w' => ∃ G, e = .returned (.pointer (some ⟨G, 0, none⟩)) ∧ Below w.heap.size w w' ∧ Graph w' G n nb S B P Q := by
  have hmk := make_bands nb hn
  go_enter Try.func22, Try.ntmps22
  go_wp2
  go_loopw [10] (fun i wr => ∃ k : Nat, k ≤ nb ∧ i = .int .i64 k ∧ Below w.heap.size w wr ∧ wr.rowIs w.heap.size 47 (nb * 3) (bandsTo P Q k)) (fun i _ => nb - (intOf i).toNat)
  case atStart => exact ⟨0, Nat.zero_le _, rfl, (Below.refl _ _).alloc (Nat.le_refl _) _, bands_made w P Q nb⟩
  case round =>
    obtain ⟨k, hk, rfl, hb, hr⟩ := hrel
    by_cases hlt : k < nb
    · obtain ⟨pb, po, rfl, hcp⟩ := hP.at (by omega)
      obtain ⟨qb, qo, rfl, hcq⟩ := hQ.at (by omega)
      have h1 := cell_below hb (hcp k hlt)
      have h2 := cell_below hb (hcq k hlt)
      obtain ⟨z1, h3⟩ := bands_cell0 hr hlt
      obtain ⟨z2, h4⟩ := bands_cell1 hr hlt
      have h5 := hr.frozen (k * 3)
      have h6 := hr.frozen (k * 3 + 1)
      have hs := bands_step hr
      have hpb := World.block_lt_of_cell? _ _ (hcp k hlt)
      have hqb := World.block_lt_of_cell? _ _ (hcq k hlt)
      simp only at hpb hqb
      go_wp2
      go_roundw
      case rel => exact ⟨k + 1, by omega, by go_num, (hb.setCell (Nat.le_refl _) _).setCell (Nat.le_refl _) _, hs⟩
      case measure => simp [intOf]; omega
    · go_wp2
      go_ret
      obtain rfl : k = nb := by omega
      have ha : Below wr.heap.size wr (wr.alloc (.cells #[.slice none 0 0, .slice none 0 0, .slice sa n sc, .slice none 0 0, .slice none 0 0, .slice ba (n + 1) bc, .slice (some ⟨w.heap.size, 0, none⟩) k k] 52)) := (Below.refl _ _).alloc (Nat.le_refl _) _
      have hab : Below w.heap.size w (wr.alloc (.cells #[.slice none 0 0, .slice none 0 0, .slice sa n sc, .slice none 0 0, .slice none 0 0, .slice ba (n + 1) bc, .slice (some ⟨w.heap.size, 0, none⟩) k k] 52)) := hb.alloc hb.size _
      refine ⟨wr.heap.size, rfl, hab, sa, sc, ba, bc, w.heap.size, by simp [go_sem], hS.below hab, by simp [go_sem], hB.below hab, by simp [go_sem], fun i hi => ⟨cell_below ha ?_, cell_below ha ?_⟩⟩
      · have := hr.cell (i := i * 3) (by omega)
        rwa [bandsTo, if_pos (by omega), bandCell0] at this
      · have := hr.cell (i := i * 3 + 1) (by omega)
        rwa [bandsTo, if_pos (by omega), bandCell1] at this
end Go.Proofs.Qxb6603720a
