/- zzClone: function 10. -/
import Derived.Test.Qxb6604339aFmtMem
namespace Go.Proofs.Qxb6604339aFmt
open Go.RowKit

theorem nil22 (w : World) (a : Option Addr) (n c : Nat) : (binOp .eql 22 (.slice a n c) (.slice none 0 0)).run Tryf.prog w = .ok (.bool a.isNone) w := Lib.run_eql_slice_nil w 22 5 a n c 0 0 Tryf.underlying22

theorem clone10_nil (w : World) : Calls Tryf.prog 10 #[.slice none 0 0] w fun e w' => e = .returned (.slice none 0 0) ∧ w' = w := by
  have q := nil22
  go_enter Tryf.func10, Tryf.ntmps10
  go_wp2
  go_ret
  exact ⟨rfl, rfl⟩

set_option maxHeartbeats 400000 in
theorem clone10_some (x : Addr) (n cap : Nat) (Z : Nat → Int) (w : World) (hn : n ≤ 1048576) (h : IRow .u8 w (some x) n Z) :
    Calls Tryf.prog 10 #[.slice (some x) n cap] w fun e w' => e = .returned (.slice (some ⟨w.heap.size, 0, none⟩) n n) ∧ Below w.heap.size w w' ∧ w'.rowIs w.heap.size 5 n (fun i => .int .u8 (Z i)) := by
  have q := nil22
  have hmk := run_make_row' (P := Tryf.prog) 22 5 (.int .u8 0) 1 Tryf.underlying22 Tryf.info5 rfl .i64 .i64 n (by omega) (by omega)
  go_enter Tryf.func10, Tryf.ntmps10
  go_wp2
  go_loopw [4] (fun i wr => ∃ k : Nat, k ≤ n ∧ i = .int .i64 k ∧ Below w.heap.size w wr ∧ wr.rowIs w.heap.size 5 n (fun i => if i < k then .int .u8 (Z i) else .int .u8 0)) (fun i _ => n - (intOf i).toNat)
  case atStart => exact ⟨0, Nat.zero_le _, rfl, (Below.refl _ _).alloc (Nat.le_refl _) _, (World.rowIs_made w (.int .u8 0) n 5).congr (by simp)⟩
  case round =>
    obtain ⟨k, hk, rfl, hb, hr⟩ := hrel
    by_cases hlt : k < n
    · obtain ⟨b, o, hx, hc⟩ := h.at (by omega)
      cases hx
      have h1 := cell_below hb (hc k hlt)
      have h2 := hr.cell hlt
      have h3 := hr.frozen k
      have hs := row_step hr
      go_wp2
      go_roundw
      case rel => exact ⟨k + 1, by omega, by go_num, hb.setCell (Nat.le_refl _) _, hs⟩
      case measure => simp [intOf]; omega
    · go_wp2
      go_ret
      obtain rfl : k = n := by omega
      exact ⟨rfl, hb, row_done hr⟩

/-- Whatever the slice: the clone is a slice of the same length over the same elements. -/
theorem clone10_any (a : Option Addr) (n cap : Nat) (Z : Nat → Int) (w : World) (hn : n ≤ 1048576) (hnil : a = none → cap = 0) (h : IRow .u8 w a n Z) :
    Calls Tryf.prog 10 #[.slice a n cap] w fun e w' => ∃ a' c', e = .returned (.slice a' n c') ∧ (a = none → a' = none) ∧ n ≤ c' ∧ c' ≤ n ∧ Below w.heap.size w w' ∧ IRow .u8 w' a' n Z := by
  cases a with
  | none =>
    obtain rfl := h.1 rfl
    obtain rfl := hnil rfl
    refine (clone10_nil w).mono ?_
    rintro e w' ⟨rfl, rfl⟩
    exact ⟨none, 0, rfl, fun _ => rfl, Nat.le_refl _, Nat.le_refl _, Below.refl _ _, h⟩
  | some x =>
    refine (clone10_some x n cap Z w hn h).mono ?_
    rintro e w' ⟨rfl, hb, hr⟩
    exact ⟨_, _, rfl, (fun h => by cases h), Nat.le_refl _, Nat.le_refl _, hb, IRow.of_row hr⟩
end Go.Proofs.Qxb6604339aFmt
