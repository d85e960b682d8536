/- splitLong: function 40. -/
import Derived.Test.Qxb6604339aFmtSl
namespace Go.Proofs.Qxb6604339aFmt
open Go.RowKit

set_option maxHeartbeats 400000 in
theorem splitLong_short (x : Addr) (n c k : Nat) (w : World) (R : Nat) (hE : Errs w R) (hs : n < k) :
    Calls Tryf.prog 40 #[.slice (some x) n c, .int .i64 k] w fun e w' => (∃ v, e = .returned (.tuple #[.slice none 0 0, .slice none 0 0, v]) ∧ IsErr w R v) ∧ ∃ k, w' = w.drewN k := by
  obtain ⟨v, h3, a, s, rfl, ha, hc⟩ := hE.e3
  go_enter Tryf.func40, Tryf.ntmps40
  go_wp2
  go_quiet (fail)
  go_wp2
  go_ret3
  exact ⟨⟨_, rfl, a, s, rfl, ha, hc⟩, _, rfl⟩

set_option maxHeartbeats 400000 in
theorem splitLong_zero (x : Addr) (n c k : Nat) (L : Nat → Nat) (w : World) (R : Nat) (hE : Errs w R) (hb : BR w R (some x) n L) (hk : 1 ≤ k) (hs : k ≤ n) (h0 : L 0 = 0) :
    Calls Tryf.prog 40 #[.slice (some x) n c, .int .i64 k] w fun e w' => (∃ v, e = .returned (.tuple #[.slice none 0 0, .slice none 0 0, v]) ∧ IsErr w R v) ∧ ∃ k, w' = w.drewN k := by
  obtain ⟨v, h3, a, s, rfl, ha, hc⟩ := hE.e0
  obtain ⟨b, o, hx, hbR, hcl⟩ := hb.at (by omega)
  cases hx
  have c0 := hcl 0 (by omega)
  rw [h0] at c0
  simp only [Nat.add_zero] at c0
  clear h0
  go_enter Tryf.func40, Tryf.ntmps40
  go_wp2
  go_quiet (fail)
  go_wp2
  go_ret3
  exact ⟨⟨_, rfl, a, s, rfl, ha, hc⟩, _, rfl⟩

theorem or_num (a b : Nat) (ha : a < 72057594037927936) (hb : b < 256) : bits .or .u64 ((a : Int) * 256) (b : Int) = ((a * 256 + b : Nat) : Int) := by
  have h := bits_or_u64_nat (a * 256) b (by omega) (by omega)
  have e : a * 256 ||| b = a * 256 + b := by
    have := Nat.shiftLeft_add_eq_or_of_lt (i := 8) (b := b) (by omega) a
    rw [Nat.shiftLeft_eq] at this
    exact this.symm
  rw [e] at h
  rw [← h]
  congr 1
theorem ret3 {a b c d e f : Value} (h1 : a = d) (h2 : b = e) (h3 : c = f) : Ending.returned (.tuple #[a, b, c]) = .returned (.tuple #[d, e, f]) := by rw [h1, h2, h3]

set_option maxHeartbeats 1000000 in
theorem splitLong_rest (x : Addr) (n c k : Nat) (L : Nat → Nat) (hL : ∀ i, L i < 256) (w : World) (R : Nat) (hE : Errs w R) (hb : BR w R (some x) n L) (hc : n ≤ c) (hn : n ≤ 4194304) (hk : 1 ≤ k) (hk8 : k ≤ 8) (hs : k ≤ n) (h0 : L 0 ≠ 0) :
    Calls Tryf.prog 40 #[.slice (some x) n c, .int .i64 k] w fun e w' => ((num L 0 k < 56 ∨ n < k + num L 0 k) ∧ (∃ v, e = .returned (.tuple #[.slice none 0 0, .slice none 0 0, v]) ∧ IsErr w R v) ∨
        (¬ (num L 0 k < 56 ∨ n < k + num L 0 k) ∧ ∃ v1 v2, e = .returned (.tuple #[v1, v2, .nilIface]) ∧ Sl w R v1 (num L 0 k) (fun i => L (k + i)) ∧ Sl w R v2 (n - (k + num L 0 k)) (fun i => L (k + num L 0 k + i)))) ∧ ∃ k, w' = w.drewN k := by
  obtain ⟨b, o, hx, hbR, hcl⟩ := hb.at (by omega)
  cases hx
  have c0 := hcl 0 (by omega)
  have hq : ((L 0 : Int) == 0) = false := by simp; omega
  simp only [Nat.add_zero] at c0
  obtain ⟨y, hy, hr⟩ := hb.drop' hc k
  rw [add_lit] at hy
  have HR : Hid (BR w R (some y) (n - k) (fun i => L (k + i))) := hr
  clear hb hr
  go_enter Tryf.func40, Tryf.ntmps40
  go_wp2
  clear c0
  go_loop [7, 9, 24] (fun sz cv i => ∃ j : Nat, j ≤ k ∧ i = .int .i64 j ∧ sz = .int .u64 (num L 0 j : Nat)) (fun _ _ i => k - (intOf i).toNat)
  case atStart => exact ⟨0, by omega, rfl, rfl⟩
  case round =>
    obtain ⟨j, hj, rfl, rfl⟩ := hrel
    by_cases hlt : j < k
    · have c1 := hcl j (by omega)
      have hr := num_lt_room L hL 0 j (by omega)
      have hl := hL j
      have on := or_num (num L 0 j) (L j) hr hl
      have HO : Hid _ := on
      clear on
      go_wp2
      go_round
      case rel => exact ⟨j + 1, by omega, by go_num, by rw [HO.out, num, Nat.zero_add]⟩
      case measure => simp [intOf]; omega
    · obtain rfl : k = j := by omega
      have hlt8 := num_lt_le L hL 0 k hk8
      obtain ⟨z, hz⟩ : ∃ z, z = num L 0 k := ⟨_, rfl⟩
      rw [← hz] at hlt8
      rw [← hz]
      clear hcl hlt hj hL
      by_cases t1 : z ≤ 55
      · obtain ⟨v, h3, a, s, rfl, ha, hcs⟩ := hE.e0
        have HZ : Hid (z = num L 0 k) := hz
        clear hz
        go_wp2
        go_quiet (fail)
        go_wp2
        go_ret3
        exact ⟨.inl ⟨.inl (by rw [← HZ.out]; omega), _, rfl, a, s, rfl, ha, hcs⟩, _, rfl⟩
      · by_cases t2 : n - k < z
        · obtain ⟨v, h3, a, s, rfl, ha, hcs⟩ := hE.e3
          have HZ : Hid (z = num L 0 k) := hz
          clear hz
          go_wp2
          go_quiet (fail)
          go_wp2
          go_ret3
          exact ⟨.inl ⟨.inr (by rw [← HZ.out]; omega), _, rfl, a, s, rfl, ha, hcs⟩, _, rfl⟩
        · rw [if_neg (by omega)] at hy
          cases hy
          obtain ⟨y2, hy2, hr2⟩ := HR.out.drop' (c := c - k) (by omega) z
          rw [add_lit] at hy2
          have H1 : Hid (Sl w R (.slice (some ⟨b, o + k, none⟩) z (c - k)) z (fun i => L (k + i))) := Sl.take HR.out (by omega) (by omega)
          have H2 : Hid (Sl w R (.slice (some y2) (n - k - z) (c - k - z)) (n - k - z) (fun i => L (k + (z + i)))) := Sl.of hr2 (by omega)
          have HZ : Hid (z = num L 0 k) := hz
          clear hz hr2
          go_wp2
          go_quiet (fail)
          go_wp2
          go_ret3
          refine ⟨.inr ⟨by rw [← HZ.out]; omega, _, _, rfl, ?_, ?_⟩, _, rfl⟩
          · rw [← HZ.out]; exact H1.out
          · rw [← HZ.out, show n - (k + z) = n - k - z from by omega, show (fun i => L (k + z + i)) = (fun i => L (k + (z + i))) from funext fun i => by rw [Nat.add_assoc]]; exact H2.out
end Go.Proofs.Qxb6604339aFmt
