/- The three clones: functions 19, 20, 21. -/
import Derived.Test.Qxb6603720aMem
namespace Go.Proofs.Qxb6603720a
open Go.RowKit

theorem nil32 (w : World) (a : Option Addr) (n c : Nat) : (binOp .eql 32 (.slice a n c) (.slice none 0 0)).run Try.prog w = .ok (.bool a.isNone) w := Lib.run_eql_slice_nil w 32 9 a n c 0 0 Try.underlying32

theorem clone19_nil (w : World) : Calls Try.prog 19 #[.slice none 0 0] w fun e w' => e = .returned (.slice none 0 0) ∧ w' = w := by
  have q := nil32
  go_enter Try.func19, Try.ntmps19
  go_wp2
  go_ret
  exact ⟨rfl, rfl⟩

set_option maxHeartbeats 400000 in
theorem clone19_some (x : Addr) (n cap : Nat) (Z : Nat → ByteArray) (w : World) (hn : n ≤ 1048576) (h : SRow w (some x) n Z) :
    Calls Try.prog 19 #[.slice (some x) n cap] w fun e w' => e = .returned (.slice (some ⟨w.heap.size, 0, none⟩) n n) ∧ Below w.heap.size w w' ∧ w'.rowIs w.heap.size 9 n (fun i => .string (Z i)) := by
  have q := nil32
  have hmk := run_make_row' (P := Try.prog) 32 9 (.string ByteArray.empty) 16 Try.underlying32 Try.info9 rfl .i64 .i64 n (by omega) (by omega)
  go_enter Try.func19, Try.ntmps19
  go_wp2
  go_loopw [4] (fun i wr => ∃ k : Nat, k ≤ n ∧ i = .int .i64 k ∧ Below w.heap.size w wr ∧ wr.rowIs w.heap.size 9 n (fun i => if i < k then .string (Z i) else .string ByteArray.empty)) (fun i _ => n - (intOf i).toNat)
  case atStart => exact ⟨0, Nat.zero_le _, rfl, (Below.refl _ _).alloc (Nat.le_refl _) _, (World.rowIs_made w (.string ByteArray.empty) n 9).congr (by simp)⟩
  case round =>
    obtain ⟨k, hk, rfl, hb, hr⟩ := hrel
    by_cases hlt : k < n
    · obtain ⟨b, o, hx, hc⟩ := h.at (by omega)
      cases hx
      have h1 := cell_below hb (hc k hlt)
      have h2 := hr.cell hlt
      have h3 := hr.frozen k
      have hs := row_step hr
      go_wp2
      go_roundw
      case rel => exact ⟨k + 1, by omega, by go_num, hb.setCell (Nat.le_refl _) _, hs⟩
      case measure => simp [intOf]; omega
    · go_wp2
      go_ret
      obtain rfl : k = n := by omega
      exact ⟨rfl, hb, row_done hr⟩

/-- Whatever the slice: the clone is a slice of the same length over the same elements. -/
theorem clone19_any (a : Option Addr) (n cap : Nat) (Z : Nat → ByteArray) (w : World) (hn : n ≤ 1048576) (hnil : a = none → cap = 0) (h : SRow w a n Z) :
    Calls Try.prog 19 #[.slice a n cap] w fun e w' => ∃ a' c', e = .returned (.slice a' n c') ∧ Below w.heap.size w w' ∧ SRow w' a' n Z := by
  cases a with
  | none =>
    obtain rfl := h.1 rfl
    obtain rfl := hnil rfl
    refine (clone19_nil w).mono ?_
    rintro e w' ⟨rfl, rfl⟩
    exact ⟨none, 0, rfl, Below.refl _ _, h⟩
  | some x =>
    refine (clone19_some x n cap Z w hn h).mono ?_
    rintro e w' ⟨rfl, hb, hr⟩
    exact ⟨_, _, rfl, hb, SRow.of_row hr⟩

theorem nil25 (w : World) (a : Option Addr) (n c : Nat) : (binOp .eql 25 (.slice a n c) (.slice none 0 0)).run Try.prog w = .ok (.bool a.isNone) w := Lib.run_eql_slice_nil w 25 3 a n c 0 0 Try.underlying25

theorem clone20_nil (w : World) : Calls Try.prog 20 #[.slice none 0 0] w fun e w' => e = .returned (.slice none 0 0) ∧ w' = w := by
  have q := nil25
  go_enter Try.func20, Try.ntmps20
  go_wp2
  go_ret
  exact ⟨rfl, rfl⟩

set_option maxHeartbeats 400000 in
theorem clone20_some (x : Addr) (n cap : Nat) (Z : Nat → Int) (w : World) (hn : n ≤ 1048576) (h : IRow .i64 w (some x) n Z) :
    Calls Try.prog 20 #[.slice (some x) n cap] w fun e w' => e = .returned (.slice (some ⟨w.heap.size, 0, none⟩) n n) ∧ Below w.heap.size w w' ∧ w'.rowIs w.heap.size 3 n (fun i => .int .i64 (Z i)) := by
  have q := nil25
  have hmk := run_make_row' (P := Try.prog) 25 3 (.int .i64 0) 8 Try.underlying25 Try.info3 rfl .i64 .i64 n (by omega) (by omega)
  go_enter Try.func20, Try.ntmps20
  go_wp2
  go_loopw [4] (fun i wr => ∃ k : Nat, k ≤ n ∧ i = .int .i64 k ∧ Below w.heap.size w wr ∧ wr.rowIs w.heap.size 3 n (fun i => if i < k then .int .i64 (Z i) else .int .i64 0)) (fun i _ => n - (intOf i).toNat)
  case atStart => exact ⟨0, Nat.zero_le _, rfl, (Below.refl _ _).alloc (Nat.le_refl _) _, (World.rowIs_made w (.int .i64 0) n 3).congr (by simp)⟩
  case round =>
    obtain ⟨k, hk, rfl, hb, hr⟩ := hrel
    by_cases hlt : k < n
    · obtain ⟨b, o, hx, hc⟩ := h.at (by omega)
      cases hx
      have h1 := cell_below hb (hc k hlt)
      have h2 := hr.cell hlt
      have h3 := hr.frozen k
      have hs := row_step hr
      go_wp2
      go_roundw
      case rel => exact ⟨k + 1, by omega, by go_num, hb.setCell (Nat.le_refl _) _, hs⟩
      case measure => simp [intOf]; omega
    · go_wp2
      go_ret
      obtain rfl : k = n := by omega
      exact ⟨rfl, hb, row_done hr⟩

/-- Whatever the slice: the clone is a slice of the same length over the same elements. -/
theorem clone20_any (a : Option Addr) (n cap : Nat) (Z : Nat → Int) (w : World) (hn : n ≤ 1048576) (hnil : a = none → cap = 0) (h : IRow .i64 w a n Z) :
    Calls Try.prog 20 #[.slice a n cap] w fun e w' => ∃ a' c', e = .returned (.slice a' n c') ∧ Below w.heap.size w w' ∧ IRow .i64 w' a' n Z := by
  cases a with
  | none =>
    obtain rfl := h.1 rfl
    obtain rfl := hnil rfl
    refine (clone20_nil w).mono ?_
    rintro e w' ⟨rfl, rfl⟩
    exact ⟨none, 0, rfl, Below.refl _ _, h⟩
  | some x =>
    refine (clone20_some x n cap Z w hn h).mono ?_
    rintro e w' ⟨rfl, hb, hr⟩
    exact ⟨_, _, rfl, hb, IRow.of_row hr⟩

theorem nil24 (w : World) (a : Option Addr) (n c : Nat) : (binOp .eql 24 (.slice a n c) (.slice none 0 0)).run Try.prog w = .ok (.bool a.isNone) w := Lib.run_eql_slice_nil w 24 21 a n c 0 0 Try.underlying24

theorem clone21_nil (w : World) : Calls Try.prog 21 #[.slice none 0 0] w fun e w' => e = .returned (.slice none 0 0) ∧ w' = w := by
  have q := nil24
  go_enter Try.func21, Try.ntmps21
  go_wp2
  go_ret
  exact ⟨rfl, rfl⟩

set_option maxHeartbeats 400000 in
theorem clone21_some (x : Addr) (n cap : Nat) (Z : Nat → Int) (w : World) (hn : n ≤ 1048576) (h : IRow .i32 w (some x) n Z) :
    Calls Try.prog 21 #[.slice (some x) n cap] w fun e w' => e = .returned (.slice (some ⟨w.heap.size, 0, none⟩) n n) ∧ Below w.heap.size w w' ∧ w'.rowIs w.heap.size 21 n (fun i => .int .i32 (Z i)) := by
  have q := nil24
  have hmk := run_make_row' (P := Try.prog) 24 21 (.int .i32 0) 4 Try.underlying24 Try.info21 rfl .i64 .i64 n (by omega) (by omega)
  go_enter Try.func21, Try.ntmps21
  go_wp2
  go_loopw [4] (fun i wr => ∃ k : Nat, k ≤ n ∧ i = .int .i64 k ∧ Below w.heap.size w wr ∧ wr.rowIs w.heap.size 21 n (fun i => if i < k then .int .i32 (Z i) else .int .i32 0)) (fun i _ => n - (intOf i).toNat)
  case atStart => exact ⟨0, Nat.zero_le _, rfl, (Below.refl _ _).alloc (Nat.le_refl _) _, (World.rowIs_made w (.int .i32 0) n 21).congr (by simp)⟩
  case round =>
    obtain ⟨k, hk, rfl, hb, hr⟩ := hrel
    by_cases hlt : k < n
    · obtain ⟨b, o, hx, hc⟩ := h.at (by omega)
      cases hx
      have h1 := cell_below hb (hc k hlt)
      have h2 := hr.cell hlt
      have h3 := hr.frozen k
      have hs := row_step hr
      go_wp2
      go_roundw
      case rel => exact ⟨k + 1, by omega, by go_num, hb.setCell (Nat.le_refl _) _, hs⟩
      case measure => simp [intOf]; omega
    · go_wp2
      go_ret
      obtain rfl : k = n := by omega
      exact ⟨rfl, hb, row_done hr⟩

/-- Whatever the slice: the clone is a slice of the same length over the same elements. -/
theorem clone21_any (a : Option Addr) (n cap : Nat) (Z : Nat → Int) (w : World) (hn : n ≤ 1048576) (hnil : a = none → cap = 0) (h : IRow .i32 w a n Z) :
    Calls Try.prog 21 #[.slice a n cap] w fun e w' => ∃ a' c', e = .returned (.slice a' n c') ∧ Below w.heap.size w w' ∧ IRow .i32 w' a' n Z := by
  cases a with
  | none =>
    obtain rfl := h.1 rfl
    obtain rfl := hnil rfl
    refine (clone21_nil w).mono ?_
    rintro e w' ⟨rfl, rfl⟩
    exact ⟨none, 0, rfl, Below.refl _ _, h⟩
  | some x =>
    refine (clone21_some x n cap Z w hn h).mono ?_
    rintro e w' ⟨rfl, hb, hr⟩
    exact ⟨_, _, rfl, hb, IRow.of_row hr⟩
end Go.Proofs.Qxb6603720a
