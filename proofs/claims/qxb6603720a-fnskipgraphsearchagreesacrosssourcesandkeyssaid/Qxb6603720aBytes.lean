/- zzSGBytes, the two zzBytes: functions 17, 16, 24: they return, and write nothing. -/
import Derived.Test.Qxb6603720aMem
namespace Go.Proofs.Qxb6603720a
open Go.RowKit

set_option maxHeartbeats 400000 in
theorem sgbytes_any (sa ba pa qa : Option Addr) (n n1 n2 n3 sc bc pc qc : Nat) (S : Nat → ByteArray) (w : World) (hn : n ≤ 1048576) (hS : SRow w sa n S) :
    Calls Try.prog 17 #[.slice sa n sc, .slice ba n1 bc, .slice pa n2 pc, .slice qa n3 qc] w fun e w' => (∃ z : Int, e = .returned (.int .i64 z)) ∧ w' = w := by
  go_enter Try.func17, Try.ntmps17
  go_wp2
  go_loop [9, 10] (fun t i => ∃ (k : Nat) (z : Int), k ≤ n ∧ i = .int .i64 k ∧ t = .int .i64 z) (fun _ i => n - (intOf i).toNat)
  case atStart => exact ⟨0, _, Nat.zero_le _, rfl, rfl⟩
  case round =>
    obtain ⟨k, z, hk, rfl, rfl⟩ := hrel
    by_cases hlt : k < n
    · obtain ⟨b, o, rfl, hc⟩ := hS.at (by omega)
      have h1 := hc k hlt
      go_wp2
      · go_ret
        exact ⟨⟨_, rfl⟩, rfl⟩
      · go_round
        case rel => exact ⟨k + 1, _, by omega, by go_num, rfl⟩
        case measure => simp [intOf]; omega
    · go_wp2
      go_ret
      exact ⟨⟨_, rfl⟩, rfl⟩

set_option maxHeartbeats 400000 in
theorem bytes16_any (sa ba pa qa : Option Addr) (n n1 n2 n3 sc bc pc qc : Nat) (S : Nat → ByteArray) (src : Int) (key : ByteArray) (w : World) (hn : n ≤ maxLen) (hS : SRow w sa n S) :
    Calls Try.prog 16 #[.slice sa n sc, .slice ba n1 bc, .slice pa n2 pc, .slice qa n3 qc, .int .i64 src, .string key] w fun e w' => BoolOf True e ∧ w' = w := by
  unfold maxLen at hn
  by_cases hn0 : n ≤ 1048576
  · go_enter Try.func16, Try.ntmps16
    go_wp2
    go_loop [13, 14] (fun t i => ∃ (k : Nat) (z : Int), k ≤ n ∧ i = .int .i64 k ∧ t = .int .i64 z) (fun _ i => n - (intOf i).toNat)
    case atStart => exact ⟨0, _, Nat.zero_le _, rfl, rfl⟩
    case round =>
      obtain ⟨k, z, hk, rfl, rfl⟩ := hrel
      by_cases hlt : k < n
      · obtain ⟨b, o, rfl, hc⟩ := hS.at (by omega)
        have h1 := hc k hlt
        go_wp2
        · go_ret
          exact ⟨BoolOf.triv, rfl⟩
        · go_ret
          exact ⟨BoolOf.triv, rfl⟩
        · go_round
          case rel => exact ⟨k + 1, _, by omega, by go_num, rfl⟩
          case measure => simp [intOf]; omega
      · go_wp2
        all_goals (go_ret; exact ⟨BoolOf.triv, rfl⟩)
  · go_enter Try.func16, Try.ntmps16
    go_wp2
    go_ret
    exact ⟨BoolOf.triv, rfl⟩

set_option maxHeartbeats 400000 in
theorem bytes24_any (sa ba pa qa : Option Addr) (n n1 n2 n3 sc bc pc qc : Nat) (S : Nat → ByteArray) (src src2 : Int) (key key2 : ByteArray) (w : World) (hn : n ≤ maxLen) (hS : SRow w sa n S) :
    Calls Try.prog 24 #[.slice sa n sc, .slice ba n1 bc, .slice pa n2 pc, .slice qa n3 qc, .int .i64 src, .string key, .int .i64 src2, .string key2] w fun e w' => BoolOf True e ∧ w' = w := by
  unfold maxLen at hn
  by_cases hn0 : n ≤ 1048576
  · go_enter Try.func24, Try.ntmps24
    go_wp2
    go_loop [17, 18] (fun t i => ∃ (k : Nat) (z : Int), k ≤ n ∧ i = .int .i64 k ∧ t = .int .i64 z) (fun _ i => n - (intOf i).toNat)
    case atStart => exact ⟨0, _, Nat.zero_le _, rfl, rfl⟩
    case round =>
      obtain ⟨k, z, hk, rfl, rfl⟩ := hrel
      by_cases hlt : k < n
      · obtain ⟨b, o, rfl, hc⟩ := hS.at (by omega)
        have h1 := hc k hlt
        go_wp2
        · go_ret
          exact ⟨BoolOf.triv, rfl⟩
        · go_ret
          exact ⟨BoolOf.triv, rfl⟩
        · go_round
          case rel => exact ⟨k + 1, _, by omega, by go_num, rfl⟩
          case measure => simp [intOf]; omega
      · go_wp2
        all_goals (go_ret; exact ⟨BoolOf.triv, rfl⟩)
  · go_enter Try.func24, Try.ntmps24
    go_wp2
    go_ret
    exact ⟨BoolOf.triv, rfl⟩

end Go.Proofs.Qxb6603720a
