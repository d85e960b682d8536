/- zzUintOf: function 23. -/
import Derived.Test.Qxb6604339aFmtUint
import Derived.Test.Qxb6604339aFmtHead
namespace Go.Proofs.Qxb6604339aFmt
open Go.RowKit

set_option maxHeartbeats 1000000 in
theorem uintOf_ok (a : Option Addr) (n c s e : Nat) (sh : Bool) (L : Nat → Nat) (hL : ∀ i, L i < 256) (w : World) (R : Nat) (hb : BR w R a n L) (hn : n ≤ 4194304) (h1 : s ≤ e) (h2 : e ≤ n) (hu : UOk ⟨false, s, e, true, sh⟩ L) :
    Calls Tryf.prog 23 #[.slice a n c, .bool false, .int .i64 s, .int .i64 e, .bool true] w fun r w' => r = .returned (.tuple #[.int .u64 (num L s (e - s) : Nat), .bool true]) ∧ w' = w := by
  obtain ⟨_, _, h8, hz⟩ := hu
  simp only at h8 hz
  have q8 : decide ((8 : Int) < (e : Int) - (s : Int)) = false := decide_eq_false (by omega)
  by_cases hse : s < e
  · obtain ⟨b, o, rfl, hbR, hcl⟩ := hb.at (by omega)
    have c0 := hcl s (by omega)
    have hq : ((L s : Int) == 0) = false := by have := hz; simp; omega
    clear hz
    go_enter Tryf.func23, Tryf.ntmps23
    go_wp2
    clear c0
    go_loop [12, 13] (fun v i => ∃ j : Nat, j ≤ e - s ∧ i = .int .i64 ((s : Int) + j) ∧ v = .int .u64 (num L s j : Nat)) (fun _ i => e - (intOf i).toNat)
    case atStart => exact ⟨0, by omega, by simp, rfl⟩
    case round =>
      obtain ⟨j, hj, rfl, rfl⟩ := hrel
      by_cases hlt : j < e - s
      · have c1 := hcl (s + j) (by omega)
        have hr := num_lt_room L hL s j (by omega)
        have hl := hL (s + j)
        clear hcl
        go_wp2
        go_round
        case rel => exact ⟨j + 1, by omega, by go_num, by rw [num]; simp⟩
        case measure => simp [intOf]; omega
      · have HJ : Hid (e - s = j) := by show _ = _; omega
        have hge : (e : Int) ≤ (s : Int) + j := by omega
        clear hcl hlt hj
        go_wp2
        go_ret2
        exact ⟨(by rw [HJ.out]; rfl), rfl⟩
  · have e0 : Hid (e - s = 0) := by show _ = _; omega
    have es : (e : Int) ≤ s := by omega
    clear hz
    go_enter Tryf.func23, Tryf.ntmps23
    go_wp2
    refine wp_loop_rounds 1 ?_
    rw [rounds_succ]
    go_wp2
    go_ret2
    exact ⟨by rw [e0.out]; rfl, rfl⟩

set_option maxHeartbeats 1000000 in
theorem uintOf_no (a : Option Addr) (n c s e : Nat) (l g sh : Bool) (L : Nat → Nat) (w : World) (R : Nat) (hb : BR w R a n L) (hn : n ≤ 4194304) (h1 : s ≤ e) (h2 : e ≤ n) (hu : ¬ UOk ⟨l, s, e, g, sh⟩ L) :
    Calls Tryf.prog 23 #[.slice a n c, .bool l, .int .i64 s, .int .i64 e, .bool g] w fun r w' => r = .returned (.tuple #[.int .u64 0, .bool false]) ∧ w' = w := by
  cases g
  · clear hu
    go_enter Tryf.func23, Tryf.ntmps23
    go_wp2
    go_ret2
    exact ⟨rfl, rfl⟩
  cases l
  · by_cases h8 : 8 < e - s
    · have q8 : decide ((8 : Int) < (e : Int) - (s : Int)) = true := decide_eq_true (by omega)
      clear hu
      go_enter Tryf.func23, Tryf.ntmps23
      go_wp2
      go_ret2
      exact ⟨rfl, rfl⟩
    · have hz : s < e ∧ L s = 0 := by
        by_cases hz : s < e ∧ L s = 0
        · exact hz
        · exact absurd ⟨rfl, rfl, by simp only; omega, hz⟩ hu
      obtain ⟨hse, hz⟩ := hz
      have q8 : decide ((8 : Int) < (e : Int) - (s : Int)) = false := decide_eq_false (by omega)
      obtain ⟨b, o, rfl, hbR, hcl⟩ := hb.at (by omega)
      have c0 := hcl s (by omega)
      rw [hz] at c0
      clear hz hu hcl
      go_enter Tryf.func23, Tryf.ntmps23
      go_wp2
      go_ret2
      exact ⟨rfl, rfl⟩
  · clear hu
    go_enter Tryf.func23, Tryf.ntmps23
    go_wp2
    go_ret2
    exact ⟨rfl, rfl⟩
end Go.Proofs.Qxb6604339aFmt
