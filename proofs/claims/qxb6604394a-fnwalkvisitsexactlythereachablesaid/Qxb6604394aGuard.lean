/- The laws' premises: functions 25, 14, 13, 21, 12; zzHeldIn: 22. -/
import Derived.Test.Qxb6604394aHolds
namespace Go.Proofs.Qxb6604394a
open Go.RowKit

theorem value_any (v n : Nat) (w : World) (hv : v < 4294967296) (hn : n ≤ 1048576) :
    Calls Try.prog 25 #[.int .u32 (v : Nat), .int .i64 (n : Nat)] w fun e w' => BoolOf (Ok n v) e ∧ w' = w := by
  by_cases h0 : v = 0
  · subst h0
    go_enter Try.func25, Try.ntmps25
    go_wp2
    go_ret
    exact ⟨BoolOf.yes (.inl rfl), rfl⟩
  by_cases hT : v = 4294967295
  · subst hT
    clear h0
    go_enter Try.func25, Try.ntmps25
    go_wp2
    go_ret
    exact ⟨BoolOf.yes (.inr (.inl rfl)), rfl⟩
  have q0 : ((v : Int) == 0) = false := by simp; omega
  have qT : ((v : Int) == 4294967295) = false := by simp; omega
  by_cases hl : v ≤ n
  · have HL : Hid (Ok n v) := .inr (.inr hl)
    go_enter Try.func25, Try.ntmps25
    go_wp2
    go_ret
    first | exact ⟨BoolOf.yes HL.out, rfl⟩ | exact ⟨⟨_, rfl, fun _ => HL.out⟩, rfl⟩
  · go_enter Try.func25, Try.ntmps25
    go_wp2
    go_ret
    first | exact ⟨BoolOf.no, rfl⟩ | exact ⟨⟨_, rfl, fun h => absurd h (by simp; omega)⟩, rfl⟩
set_option maxRecDepth 100000 in
set_option maxHeartbeats 4000000 in
theorem valid_any (n np nb m vc pc bc fc : Nat) (va pa ba fa : Option Addr) (V FZ : Nat → Nat) (PA BA : Nat → Option Addr) (PL PC BL BC : Nat → Nat) (PZ BZ : Nat → Nat → Nat) (w : World) (hn : n ≤ 1048576) (hnp : np ≤ 1048576) (hnb : nb ≤ 1048576) (hm : m ≤ 1048576)
    (LPL : Hid (∀ i, i < np → PL i ≤ 1048576)) (LBL : Hid (∀ i, i < nb → BL i ≤ 1048576))
    (BV : Hid (∀ i, V i < 4294967296)) (BF : Hid (∀ i, FZ i < 4294967296)) (BPZ : Hid (∀ i j, PZ i j < 4294967296)) (BBZ : Hid (∀ i j, BZ i j < 4294967296))
    (hV : URow w va n V) (hP : GRow w pa np PA PL PC PZ) (hB : GRow w ba nb BA BL BC BZ) (hF : URow w fa m FZ) :
    Calls Try.prog 14 #[.slice va n vc, .slice pa np pc, .slice ba nb bc, .slice fa m fc] w fun e w' => BoolOf (Hid (∀ i, i < n → Ok n (V i)) ∧ Hid (∀ i, i < np → ∀ j, j < PL i → Ok n (PZ i j)) ∧ Hid (∀ i, i < nb → ∀ j, j < BL i → Ok n (BZ i j)) ∧ Hid (∀ i, i < m → Ok n (FZ i))) e ∧ w' = w := by
  go_enter Try.func14, Try.ntmps14
  go_wp2
  go_loop [26] (fun i => ∃ k : Nat, k ≤ n ∧ i = .int .i64 k ∧ Hid (∀ x, x < k → Ok n (V x))) (fun i => n - (intOf i).toNat)
  case atStart => exact ⟨0, by omega, rfl, fun x hx => absurd hx (Nat.not_lt_zero _)⟩
  case round =>
    obtain ⟨k1, hk1, rfl, Hk1⟩ := hrel
    by_cases ltk1 : k1 < n
    · obtain ⟨b, o, ha, hc⟩ := (hV).at (by omega)
      cases ha
      have cj := hc k1 ltk1
      clear hc
      go_wp2_with fail
      refine (value_any (V k1) n w (BV.out _) hn).mono ?_
      rintro e w' ⟨⟨z, rfl, hz⟩, hw⟩
      obtain rfl := hw.symm
      cases z
      · clear hz
        go_wp2
        go_ret
        exact ⟨BoolOf.no, rfl⟩
      · have HZ : Hid (∀ x, x < k1 + 1 → Ok n (V x)) := fun x hx => by
          by_cases e : x = k1
          · subst e; exact hz rfl
          · exact Hk1.out x (by omega)
        clear hz
        go_wp2
        go_round
        case rel => exact ⟨k1 + 1, by omega, by go_num, HZ⟩
        case measure => simp [intOf]; omega
    · obtain rfl : n = k1 := by omega
      have F1 : Hid (∀ x, x < n → Ok n (V x)) := Hk1
      clear Hk1
      go_wp2
      go_loop [37] (fun i => ∃ k : Nat, k ≤ np ∧ i = .int .i64 k ∧ Hid (∀ x, x < k → ∀ y, y < PL x → Ok n (PZ x y))) (fun i => np - (intOf i).toNat)
      case atStart => exact ⟨0, by omega, rfl, fun x hx => absurd hx (Nat.not_lt_zero _)⟩
      case round =>
        obtain ⟨k2, hk2, rfl, Hk2⟩ := hrel
        by_cases ltk2 : k2 < np
        · obtain ⟨b, o, ha, hc⟩ := (hP).at (by omega)
          cases ha
          have ck := hc k2 ltk2
          have rk := (hP).rows k2 ltk2
          have lk := LPL.out k2 ltk2
          clear hc
          go_wp2
          go_loop [43] (fun i => ∃ k : Nat, k ≤ PL k2 ∧ i = .int .i64 k ∧ Hid (∀ y, y < k → Ok n (PZ k2 y))) (fun i => PL k2 - (intOf i).toNat)
          case atStart => exact ⟨0, by omega, rfl, fun x hx => absurd hx (Nat.not_lt_zero _)⟩
          case round =>
            obtain ⟨j2, hj2, rfl, Hj2⟩ := hrel
            by_cases ltj2 : j2 < PL k2
            · obtain ⟨b', o', ha', hc'⟩ := rk.at (by omega)
              rw [ha'] at ck
              have cj := hc' j2 ltj2
              clear hc'
              simp only [ha']
              go_wp2_with fail
              refine (value_any (PZ k2 j2) n w (BPZ.out _ _) hn).mono ?_
              rintro e w' ⟨⟨z, rfl, hz⟩, hw⟩
              obtain rfl := hw.symm
              cases z
              · clear hz
                go_wp2
                go_ret
                exact ⟨BoolOf.no, rfl⟩
              · have HZ : Hid (∀ y, y < j2 + 1 → Ok n (PZ k2 y)) := fun x hx => by
                  by_cases e : x = j2
                  · subst e; exact hz rfl
                  · exact Hj2.out x (by omega)
                clear hz
                go_wp2
                go_round
                case rel => exact ⟨j2 + 1, by omega, by go_num, HZ⟩
                case measure => simp [intOf]; omega
            · have HZ : Hid (∀ x, x < k2 + 1 → ∀ y, y < PL x → Ok n (PZ x y)) := fun x hx y hy => by
                by_cases e : x = k2
                · subst e; exact Hj2.out y (by omega)
                · exact Hk2.out x (by omega) y hy
              go_wp2
              go_round
              case rel => exact ⟨k2 + 1, by omega, by go_num, HZ⟩
              case measure => simp [intOf]; omega
        · obtain rfl : np = k2 := by omega
          have F2 : Hid (∀ x, x < np → ∀ y, y < PL x → Ok n (PZ x y)) := Hk2
          clear Hk2
          go_wp2
          go_loop [55] (fun i => ∃ k : Nat, k ≤ nb ∧ i = .int .i64 k ∧ Hid (∀ x, x < k → ∀ y, y < BL x → Ok n (BZ x y))) (fun i => nb - (intOf i).toNat)
          case atStart => exact ⟨0, by omega, rfl, fun x hx => absurd hx (Nat.not_lt_zero _)⟩
          case round =>
            obtain ⟨k3, hk3, rfl, Hk3⟩ := hrel
            by_cases ltk3 : k3 < nb
            · obtain ⟨b, o, ha, hc⟩ := (hB).at (by omega)
              cases ha
              have ck := hc k3 ltk3
              have rk := (hB).rows k3 ltk3
              have lk := LBL.out k3 ltk3
              clear hc
              go_wp2
              go_loop [61] (fun i => ∃ k : Nat, k ≤ BL k3 ∧ i = .int .i64 k ∧ Hid (∀ y, y < k → Ok n (BZ k3 y))) (fun i => BL k3 - (intOf i).toNat)
              case atStart => exact ⟨0, by omega, rfl, fun x hx => absurd hx (Nat.not_lt_zero _)⟩
              case round =>
                obtain ⟨j3, hj3, rfl, Hj3⟩ := hrel
                by_cases ltj3 : j3 < BL k3
                · obtain ⟨b', o', ha', hc'⟩ := rk.at (by omega)
                  rw [ha'] at ck
                  have cj := hc' j3 ltj3
                  clear hc'
                  simp only [ha']
                  go_wp2_with fail
                  refine (value_any (BZ k3 j3) n w (BBZ.out _ _) hn).mono ?_
                  rintro e w' ⟨⟨z, rfl, hz⟩, hw⟩
                  obtain rfl := hw.symm
                  cases z
                  · clear hz
                    go_wp2
                    go_ret
                    exact ⟨BoolOf.no, rfl⟩
                  · have HZ : Hid (∀ y, y < j3 + 1 → Ok n (BZ k3 y)) := fun x hx => by
                      by_cases e : x = j3
                      · subst e; exact hz rfl
                      · exact Hj3.out x (by omega)
                    clear hz
                    go_wp2
                    go_round
                    case rel => exact ⟨j3 + 1, by omega, by go_num, HZ⟩
                    case measure => simp [intOf]; omega
                · have HZ : Hid (∀ x, x < k3 + 1 → ∀ y, y < BL x → Ok n (BZ x y)) := fun x hx y hy => by
                    by_cases e : x = k3
                    · subst e; exact Hj3.out y (by omega)
                    · exact Hk3.out x (by omega) y hy
                  go_wp2
                  go_round
                  case rel => exact ⟨k3 + 1, by omega, by go_num, HZ⟩
                  case measure => simp [intOf]; omega
            · obtain rfl : nb = k3 := by omega
              have F3 : Hid (∀ x, x < nb → ∀ y, y < BL x → Ok n (BZ x y)) := Hk3
              clear Hk3
              go_wp2
              go_loop [73] (fun i => ∃ k : Nat, k ≤ m ∧ i = .int .i64 k ∧ Hid (∀ x, x < k → Ok n (FZ x))) (fun i => m - (intOf i).toNat)
              case atStart => exact ⟨0, by omega, rfl, fun x hx => absurd hx (Nat.not_lt_zero _)⟩
              case round =>
                obtain ⟨k4, hk4, rfl, Hk4⟩ := hrel
                by_cases ltk4 : k4 < m
                · obtain ⟨b, o, ha, hc⟩ := (hF).at (by omega)
                  cases ha
                  have cj := hc k4 ltk4
                  clear hc
                  go_wp2_with fail
                  refine (value_any (FZ k4) n w (BF.out _) hn).mono ?_
                  rintro e w' ⟨⟨z, rfl, hz⟩, hw⟩
                  obtain rfl := hw.symm
                  cases z
                  · clear hz
                    go_wp2
                    go_ret
                    exact ⟨BoolOf.no, rfl⟩
                  · have HZ : Hid (∀ x, x < k4 + 1 → Ok n (FZ x)) := fun x hx => by
                      by_cases e : x = k4
                      · subst e; exact hz rfl
                      · exact Hk4.out x (by omega)
                    clear hz
                    go_wp2
                    go_round
                    case rel => exact ⟨k4 + 1, by omega, by go_num, HZ⟩
                    case measure => simp [intOf]; omega
                · obtain rfl : m = k4 := by omega
                  have F4 : Hid (∀ x, x < m → Ok n (FZ x)) := Hk4
                  clear Hk4
                  go_wp2
                  go_ret
                  exact ⟨BoolOf.yes trivial, rfl⟩
end Go.Proofs.Qxb6604394a
