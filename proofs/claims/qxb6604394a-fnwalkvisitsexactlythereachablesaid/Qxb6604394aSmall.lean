/- zzWalkSmall, zzHeldIn: functions 13, 22. -/
import Derived.Test.Qxb6604394aGuard
namespace Go.Proofs.Qxb6604394a
open Go.RowKit

set_option maxRecDepth 100000 in
set_option maxHeartbeats 4000000 in
theorem small_any (n np nb m vc pc bc fc : Nat) (va pa ba fa : Option Addr) (PA BA : Nat → Option Addr) (PL PC BL BC : Nat → Nat) (PZ BZ : Nat → Nat → Nat) (w : World) (hn : n ≤ 1048576) (hnp : np ≤ 1048576) (hnb : nb ≤ 1048576) (hm : m ≤ 1048576)
    (LPL : Hid (∀ i, i < np → PL i ≤ 1048576)) (LBL : Hid (∀ i, i < nb → BL i ≤ 1048576)) (hP : GRow w pa np PA PL PC PZ) (hB : GRow w ba nb BA BL BC BZ) :
    Calls Try.prog 13 #[.slice va n vc, .slice pa np pc, .slice ba nb bc, .slice fa m fc] w fun e w' => BoolOf True e ∧ w' = w := by
  by_cases hl : 4 * n + 4 * m + 24 * np + 24 * nb ≤ 1048576
  · go_enter Try.func13, Try.ntmps13
    go_wp2
    go_loop [9, 33] (fun t i => ∃ k s : Nat, k ≤ np ∧ s ≤ 1048576 ∧ t = .int .i64 s ∧ i = .int .i64 k ∧ True) (fun _ i => np - (intOf i).toNat)
    case atStart => exact ⟨0, _, by omega, by omega, by go_num, rfl, trivial⟩
    case round =>
      obtain ⟨k2, s, hk2, hs, rfl, rfl, Hk2⟩ := hrel
      by_cases ltk2 : k2 < np
      · obtain ⟨b, o, ha, hc⟩ := (hP).at (by omega)
        cases ha
        have ck := hc k2 ltk2
        have lk := LPL.out k2 ltk2
        clear hc
        by_cases hle : s + 4 * PL k2 ≤ 1048576
        · go_wp2
          go_round
          case rel => exact ⟨k2 + 1, s + 4 * PL k2, by omega, by omega, by go_num, by go_num, trivial⟩
          case measure => simp [intOf]; omega
        · go_wp2
          all_goals go_ret
          all_goals exact ⟨BoolOf.no, rfl⟩
      · obtain rfl : np = k2 := by omega
        go_wp2
        go_loop [9, 47] (fun t i => ∃ k s : Nat, k ≤ nb ∧ s ≤ 1048576 ∧ t = .int .i64 s ∧ i = .int .i64 k ∧ True) (fun _ i => nb - (intOf i).toNat)
        case atStart => exact ⟨0, _, by omega, by omega, by go_num, rfl, trivial⟩
        case round =>
          obtain ⟨k3, s, hk3, hs, rfl, rfl, Hk3⟩ := hrel
          by_cases ltk3 : k3 < nb
          · obtain ⟨b, o, ha, hc⟩ := (hB).at (by omega)
            cases ha
            have ck := hc k3 ltk3
            have lk := LBL.out k3 ltk3
            clear hc
            by_cases hle : s + 4 * BL k3 ≤ 1048576
            · go_wp2
              go_round
              case rel => exact ⟨k3 + 1, s + 4 * BL k3, by omega, by omega, by go_num, by go_num, trivial⟩
              case measure => simp [intOf]; omega
            · go_wp2
              all_goals go_ret
              all_goals exact ⟨BoolOf.no, rfl⟩
          · obtain rfl : nb = k3 := by omega
            go_wp2
            go_ret
            exact ⟨BoolOf.yes trivial, rfl⟩
  · go_enter Try.func13, Try.ntmps13
    go_wp2
    all_goals go_ret
    all_goals exact ⟨BoolOf.no, rfl⟩
theorem heldIn_any (w : World) (ib n v : Nat) (f : Nat → Bool) (hr : w.rowIs ib 4 (n + 1) (fun i => .bool (f i))) (hv : Ok n v) (hf : v = 0 ∨ v = 4294967295 ∨ f v = true) :
    Calls Try.prog 22 #[.slice (some ⟨ib, 0, none⟩) (n + 1) (n + 1), .int .u32 (v : Nat)] w fun e w' => e = .returned (.bool true) ∧ w' = w := by
  unfold Ok at hv
  by_cases h0 : v = 0
  · subst h0
    clear hf hv
    go_enter Try.func22, Try.ntmps22
    go_wp2
    go_ret
    exact ⟨rfl, rfl⟩
  by_cases hT : v = 4294967295
  · subst hT
    clear h0 hf hv
    go_enter Try.func22, Try.ntmps22
    go_wp2
    go_ret
    exact ⟨rfl, rfl⟩
  have q0 : ((v : Int) == 0) = false := by simp; omega
  have qT : ((v : Int) == 4294967295) = false := by simp; omega
  have hvn : v ≤ n := by omega
  have c := hr.cell (i := v) (by omega)
  rw [show f v = true by rcases hf with h | h | h; exact absurd h h0; exact absurd h hT; exact h] at c
  clear hf hv
  go_enter Try.func22, Try.ntmps22
  go_wp2
  go_ret
  exact ⟨rfl, rfl⟩
end Go.Proofs.Qxb6604394a
