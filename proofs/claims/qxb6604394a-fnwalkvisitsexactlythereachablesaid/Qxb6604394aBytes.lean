/- The laws' bounds: functions 21, 12. -/
import Derived.Test.Qxb6604394aGuard
namespace Go.Proofs.Qxb6604394a
open Go.RowKit

set_option maxRecDepth 100000 in
set_option maxHeartbeats 4000000 in
theorem bytes21_any (n np nb m vc pc bc fc : Nat) (va pa ba fa : Option Addr) (PA BA : Nat → Option Addr) (PL PC BL BC : Nat → Nat) (PZ BZ : Nat → Nat → Nat) (w : World) (hn : n ≤ maxLen) (hnp : np ≤ maxLen) (hnb : nb ≤ maxLen) (hm : m ≤ maxLen)
    (LPL : Hid (∀ i, i < np → PL i ≤ maxLen)) (LBL : Hid (∀ i, i < nb → BL i ≤ maxLen)) (hP : GRow w pa np PA PL PC PZ) (hB : GRow w ba nb BA BL BC BZ) :
    Calls Try.prog 21 #[.slice va n vc, .slice pa np pc, .slice ba nb bc, .slice fa m fc] w fun e w' => BoolOf (n ≤ 1048576 ∧ np ≤ 1048576 ∧ nb ≤ 1048576 ∧ m ≤ 1048576 ∧ Hid (∀ i, i < np → PL i ≤ 1048576) ∧ Hid (∀ i, i < nb → BL i ≤ 1048576)) e ∧ w' = w := by
  unfold maxLen at hn hnp hnb hm
  by_cases hl : n ≤ 1048576 ∧ np ≤ 1048576 ∧ n + np ≤ 1048576
  · obtain ⟨t1, t2, t3⟩ := hl
    have B0 : Hid (n ≤ 1048576 ∧ np ≤ 1048576) := ⟨t1, t2⟩
    clear hn hnp
    go_enter Try.func21, Try.ntmps21
    go_wp2
    go_loop [9, 10] (fun t i => ∃ k s : Nat, k ≤ np ∧ s ≤ 1048576 ∧ t = .int .i64 s ∧ i = .int .i64 k ∧ Hid (∀ x, x < k → PL x ≤ 1048576)) (fun _ i => np - (intOf i).toNat)
    case atStart => exact ⟨0, _, by omega, by omega, by go_num, rfl, fun x hx => absurd hx (Nat.not_lt_zero _)⟩
    case round =>
      obtain ⟨k2, s, hk2, hs, rfl, rfl, Hk2⟩ := hrel
      by_cases ltk2 : k2 < np
      · obtain ⟨b, o, ha, hc⟩ := (hP).at (by omega)
        cases ha
        have ck := hc k2 ltk2
        have lk := LPL.out k2 ltk2
        unfold maxLen at lk
        clear hc
        by_cases hle : PL k2 ≤ 1048576 ∧ s + PL k2 ≤ 1048576
        · obtain ⟨e1, e2⟩ := hle
          have HZ : Hid (∀ x, x < k2 + 1 → PL x ≤ 1048576) := fun x hx => by
            by_cases e : x = k2
            · subst e; exact e1
            · exact Hk2.out x (by omega)
          clear lk
          go_wp2
          go_round
          case rel => exact ⟨k2 + 1, s + PL k2, by omega, by omega, by go_num, by go_num, HZ⟩
          case measure => simp [intOf]; omega
        · go_wp2
          all_goals go_ret
          all_goals exact ⟨BoolOf.no, rfl⟩
      · obtain rfl : np = k2 := by omega
        have F2 : Hid (∀ x, x < np → PL x ≤ 1048576) := Hk2
        clear Hk2
        by_cases hl : nb ≤ 1048576 ∧ s + nb ≤ 1048576
        · obtain ⟨u1, u2⟩ := hl
          go_wp2
          go_loop [9, 11] (fun t i => ∃ k s : Nat, k ≤ nb ∧ s ≤ 1048576 ∧ t = .int .i64 s ∧ i = .int .i64 k ∧ Hid (∀ x, x < k → BL x ≤ 1048576)) (fun _ i => nb - (intOf i).toNat)
          case atStart => exact ⟨0, _, by omega, by omega, by go_num, rfl, fun x hx => absurd hx (Nat.not_lt_zero _)⟩
          case round =>
            obtain ⟨k3, s, hk3, hs, rfl, rfl, Hk3⟩ := hrel
            by_cases ltk3 : k3 < nb
            · obtain ⟨b, o, ha, hc⟩ := (hB).at (by omega)
              cases ha
              have ck := hc k3 ltk3
              have lk := LBL.out k3 ltk3
              unfold maxLen at lk
              clear hc
              by_cases hle : BL k3 ≤ 1048576 ∧ s + BL k3 ≤ 1048576
              · obtain ⟨e1, e2⟩ := hle
                have HZ : Hid (∀ x, x < k3 + 1 → BL x ≤ 1048576) := fun x hx => by
                  by_cases e : x = k3
                  · subst e; exact e1
                  · exact Hk3.out x (by omega)
                clear lk
                go_wp2
                go_round
                case rel => exact ⟨k3 + 1, s + BL k3, by omega, by omega, by go_num, by go_num, HZ⟩
                case measure => simp [intOf]; omega
              · go_wp2
                all_goals go_ret
                all_goals exact ⟨BoolOf.no, rfl⟩
            · obtain rfl : nb = k3 := by omega
              have F3 : Hid (∀ x, x < nb → BL x ≤ 1048576) := Hk3
              clear Hk3
              by_cases hl : m ≤ 1048576 ∧ s + m ≤ 1048576
              · obtain ⟨u5, u6⟩ := hl
                go_wp2
                go_ret
                first | exact ⟨BoolOf.yes trivial, rfl⟩ | exact ⟨BoolOf.yes ⟨B0.out.1, B0.out.2, u1, u5, F2, F3⟩, rfl⟩ | (refine ⟨BoolOf.yes ?_, rfl⟩; simp [B0.out.1, B0.out.2, u1, u5]; done)
              · go_wp2
                all_goals go_ret
                all_goals exact ⟨BoolOf.no, rfl⟩
        · go_wp2
          all_goals go_ret
          all_goals exact ⟨BoolOf.no, rfl⟩
  · go_enter Try.func21, Try.ntmps21
    go_wp2
    all_goals go_ret
    all_goals exact ⟨BoolOf.no, rfl⟩
set_option maxRecDepth 100000 in
set_option maxHeartbeats 4000000 in
theorem bytes12_any (n np nb m vc pc bc fc : Nat) (va pa ba fa : Option Addr) (PA BA : Nat → Option Addr) (PL PC BL BC : Nat → Nat) (PZ BZ : Nat → Nat → Nat) (w : World) (hn : n ≤ maxLen) (hnp : np ≤ maxLen) (hnb : nb ≤ maxLen) (hm : m ≤ maxLen)
    (LPL : Hid (∀ i, i < np → PL i ≤ maxLen)) (LBL : Hid (∀ i, i < nb → BL i ≤ maxLen)) (hP : GRow w pa np PA PL PC PZ) (hB : GRow w ba nb BA BL BC BZ) :
    Calls Try.prog 12 #[.slice va n vc, .slice pa np pc, .slice ba nb bc, .slice fa m fc] w fun e w' => BoolOf (n ≤ 1048576 ∧ np ≤ 1048576 ∧ nb ≤ 1048576 ∧ m ≤ 1048576 ∧ Hid (∀ i, i < np → PL i ≤ 1048576) ∧ Hid (∀ i, i < nb → BL i ≤ 1048576)) e ∧ w' = w := by
  unfold maxLen at hn hnp hnb hm
  by_cases hl : n ≤ 1048576 ∧ np ≤ 1048576 ∧ n + np ≤ 1048576
  · obtain ⟨t1, t2, t3⟩ := hl
    have B0 : Hid (n ≤ 1048576 ∧ np ≤ 1048576) := ⟨t1, t2⟩
    clear hn hnp
    go_enter Try.func12, Try.ntmps12
    go_wp2
    go_loop [9, 10] (fun t i => ∃ k s : Nat, k ≤ np ∧ s ≤ 1048576 ∧ t = .int .i64 s ∧ i = .int .i64 k ∧ Hid (∀ x, x < k → PL x ≤ 1048576)) (fun _ i => np - (intOf i).toNat)
    case atStart => exact ⟨0, _, by omega, by omega, by go_num, rfl, fun x hx => absurd hx (Nat.not_lt_zero _)⟩
    case round =>
      obtain ⟨k2, s, hk2, hs, rfl, rfl, Hk2⟩ := hrel
      by_cases ltk2 : k2 < np
      · obtain ⟨b, o, ha, hc⟩ := (hP).at (by omega)
        cases ha
        have ck := hc k2 ltk2
        have lk := LPL.out k2 ltk2
        unfold maxLen at lk
        clear hc
        by_cases hle : PL k2 ≤ 1048576 ∧ s + PL k2 ≤ 1048576
        · obtain ⟨e1, e2⟩ := hle
          have HZ : Hid (∀ x, x < k2 + 1 → PL x ≤ 1048576) := fun x hx => by
            by_cases e : x = k2
            · subst e; exact e1
            · exact Hk2.out x (by omega)
          clear lk
          go_wp2
          go_round
          case rel => exact ⟨k2 + 1, s + PL k2, by omega, by omega, by go_num, by go_num, HZ⟩
          case measure => simp [intOf]; omega
        · go_wp2
          all_goals go_ret
          all_goals exact ⟨BoolOf.no, rfl⟩
      · obtain rfl : np = k2 := by omega
        have F2 : Hid (∀ x, x < np → PL x ≤ 1048576) := Hk2
        clear Hk2
        by_cases hl : nb ≤ 1048576 ∧ s + nb ≤ 1048576
        · obtain ⟨u1, u2⟩ := hl
          go_wp2
          go_loop [9, 11] (fun t i => ∃ k s : Nat, k ≤ nb ∧ s ≤ 1048576 ∧ t = .int .i64 s ∧ i = .int .i64 k ∧ Hid (∀ x, x < k → BL x ≤ 1048576)) (fun _ i => nb - (intOf i).toNat)
          case atStart => exact ⟨0, _, by omega, by omega, by go_num, rfl, fun x hx => absurd hx (Nat.not_lt_zero _)⟩
          case round =>
            obtain ⟨k3, s, hk3, hs, rfl, rfl, Hk3⟩ := hrel
            by_cases ltk3 : k3 < nb
            · obtain ⟨b, o, ha, hc⟩ := (hB).at (by omega)
              cases ha
              have ck := hc k3 ltk3
              have lk := LBL.out k3 ltk3
              unfold maxLen at lk
              clear hc
              by_cases hle : BL k3 ≤ 1048576 ∧ s + BL k3 ≤ 1048576
              · obtain ⟨e1, e2⟩ := hle
                have HZ : Hid (∀ x, x < k3 + 1 → BL x ≤ 1048576) := fun x hx => by
                  by_cases e : x = k3
                  · subst e; exact e1
                  · exact Hk3.out x (by omega)
                clear lk
                go_wp2
                go_round
                case rel => exact ⟨k3 + 1, s + BL k3, by omega, by omega, by go_num, by go_num, HZ⟩
                case measure => simp [intOf]; omega
              · go_wp2
                all_goals go_ret
                all_goals exact ⟨BoolOf.no, rfl⟩
            · obtain rfl : nb = k3 := by omega
              have F3 : Hid (∀ x, x < nb → BL x ≤ 1048576) := Hk3
              clear Hk3
              by_cases hl : m ≤ 1048576 ∧ s + m ≤ 1048576
              · obtain ⟨u5, u6⟩ := hl
                go_wp2
                go_ret
                first | exact ⟨BoolOf.yes trivial, rfl⟩ | exact ⟨BoolOf.yes ⟨B0.out.1, B0.out.2, u1, u5, F2, F3⟩, rfl⟩ | (refine ⟨BoolOf.yes ?_, rfl⟩; simp [B0.out.1, B0.out.2, u1, u5]; done)
              · go_wp2
                all_goals go_ret
                all_goals exact ⟨BoolOf.no, rfl⟩
        · go_wp2
          all_goals go_ret
          all_goals exact ⟨BoolOf.no, rfl⟩
  · go_enter Try.func12, Try.ntmps12
    go_wp2
    all_goals go_ret
    all_goals exact ⟨BoolOf.no, rfl⟩
end Go.Proofs.Qxb6604394a
