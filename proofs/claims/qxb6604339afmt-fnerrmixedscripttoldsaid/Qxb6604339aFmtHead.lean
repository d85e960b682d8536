/- zzShort, zzLong, zzHead: functions 32, 33, 21: the law's own head of an item is headH. -/
import Derived.Test.Qxb6604339aFmtSplit
namespace Go.Proofs.Qxb6604339aFmt
open Go.RowKit

def hdV (h : Hd) : Value := .tuple #[.bool h.list, .int .i64 (h.start : Nat), .int .i64 (h.stop : Nat), .bool h.good, .bool h.shown]
theorem hdV_mk {h : Hd} {l g s : Bool} {a b : Int} (h1 : l = h.list) (h2 : a = (h.start : Nat)) (h3 : b = (h.stop : Nat)) (h4 : g = h.good) (h5 : s = h.shown) :
    Ending.returned (.tuple #[.bool l, .int .i64 a, .int .i64 b, .bool g, .bool s]) = .returned (hdV h) := by
  rw [h1, h2, h3, h4, h5, hdV]

set_option maxRecDepth 100000 in
set_option maxHeartbeats 400000 in
theorem zzShort_any (x : Addr) (n c s : Nat) (l : Bool) (L : Nat → Nat) (w : World) (R : Nat) (hb : BR w R (some x) n L) (hn : n ≤ 4194304) (hp : 0 < n) (hs : s < 56) :
    Calls Tryf.prog 32 #[.slice (some x) n c, .bool l, .int .i64 s] w fun e w' => e = .returned (hdV (shortH n L l s)) ∧ w' = w := by
  by_cases t1 : n < 1 + s
  · have e : shortH n L l s = ⟨l, 0, 0, false, false⟩ := by unfold shortH; rw [if_pos t1]
    rw [e]
    clear e
    go_enter Tryf.func32, Tryf.ntmps32
    go_wp2
    refine bodyPost_ret (results_tmp5 rfl _ _ _) rfl ?_
    exact ⟨hdV_mk rfl rfl rfl rfl rfl, rfl⟩
  cases l
  · by_cases t2 : s = 1
    · obtain ⟨b, o, hx, hbR, hcl⟩ := hb.at hp
      cases hx
      have c1 := hcl 1 (by omega)
      have hq : ((s : Int) == 1) = true := by simp; omega
      have hn2 : 2 ≤ n := by omega
      clear hcl
      by_cases t3 : L 1 < 128
      · have e : shortH n L false s = ⟨false, 1, 2, false, true⟩ := by unfold shortH; rw [if_neg t1, if_pos ⟨rfl, t2, t3⟩]
        rw [e]
        clear e t2
        go_enter Tryf.func32, Tryf.ntmps32
        go_wp2
        refine bodyPost_ret (results_tmp5 rfl _ _ _) rfl ?_
        exact ⟨hdV_mk rfl rfl rfl rfl rfl, rfl⟩
      · have e : shortH n L false s = ⟨false, 1, 1 + s, true, true⟩ := by unfold shortH; rw [if_neg t1, if_neg (fun h => t3 h.2.2)]
        rw [e]
        clear e t2
        go_enter Tryf.func32, Tryf.ntmps32
        go_wp2
        refine bodyPost_ret (results_tmp5 rfl _ _ _) rfl ?_
        exact ⟨hdV_mk rfl rfl (by simp) rfl rfl, rfl⟩
    · have e : shortH n L false s = ⟨false, 1, 1 + s, true, true⟩ := by unfold shortH; rw [if_neg t1, if_neg (fun h => t2 h.2.1)]
      have hq : ((s : Int) == 1) = false := by simp; omega
      rw [e]
      clear e t2
      go_enter Tryf.func32, Tryf.ntmps32
      go_wp2
      refine bodyPost_ret (results_tmp5 rfl _ _ _) rfl ?_
      exact ⟨hdV_mk rfl rfl (by simp) rfl rfl, rfl⟩
  · have e : shortH n L true s = ⟨true, 1, 1 + s, true, true⟩ := by unfold shortH; rw [if_neg t1, if_neg (by intro h; cases h.1)]
    rw [e]
    clear e
    go_enter Tryf.func32, Tryf.ntmps32
    go_wp2
    refine bodyPost_ret (results_tmp5 rfl _ _ _) rfl ?_
    exact ⟨hdV_mk rfl rfl (by simp) rfl rfl, rfl⟩

set_option maxRecDepth 100000 in
set_option maxHeartbeats 1000000 in
theorem zzLong_any (x : Addr) (n c k : Nat) (l : Bool) (L : Nat → Nat) (hL : ∀ i, L i < 256) (w : World) (R : Nat) (hb : BR w R (some x) n L) (hn : n ≤ 4194304) (hp : 0 < n) (hk : 1 ≤ k) (hk8 : k ≤ 8) :
    Calls Tryf.prog 33 #[.slice (some x) n c, .bool l, .int .i64 k] w fun e w' => e = .returned (hdV (longH n L l k)) ∧ w' = w := by
  by_cases t1 : n < 1 + k
  · have e : longH n L l k = ⟨l, 0, 0, false, false⟩ := by unfold longH; rw [if_pos t1]
    rw [e]
    clear e
    go_enter Tryf.func33, Tryf.ntmps33
    go_wp2
    refine bodyPost_ret (results_tmp5 rfl _ _ _) rfl ?_
    exact ⟨hdV_mk rfl rfl rfl rfl rfl, rfl⟩
  obtain ⟨b, o, hx, hbR, hcl⟩ := hb.at hp
  cases hx
  have c1 := hcl 1 (by omega)
  have hn2 : 2 ≤ n := by omega
  by_cases t2 : L 1 = 0
  · have e : longH n L l k = ⟨l, 0, 0, false, false⟩ := by unfold longH; rw [if_neg t1, if_pos t2]
    rw [e]
    rw [t2] at c1
    clear e t2 hcl
    go_enter Tryf.func33, Tryf.ntmps33
    go_wp2
    refine bodyPost_ret (results_tmp5 rfl _ _ _) rfl ?_
    exact ⟨hdV_mk rfl rfl rfl rfl rfl, rfl⟩
  have hq : ((L 1 : Int) == 0) = false := by simp; omega
  have hq1 : decide ((n : Int) - 1 < (k : Int)) = false := decide_eq_false (by omega)
  have FIN : Hid (∀ z, z = num L 1 k → longH n L l k = if z < 56 ∨ n < 1 + k + z then ⟨l, 0, 0, false, false⟩ else ⟨l, 1 + k, 1 + k + z, true, true⟩) := fun z hz => by
    unfold longH; rw [if_neg t1, if_neg t2, hz]
  clear t2
  go_enter Tryf.func33, Tryf.ntmps33
  go_wp2
  clear c1
  go_loop [11, 12] (fun sz i => ∃ j : Nat, j ≤ k ∧ i = .int .i64 (1 + (j : Int)) ∧ sz = .int .u64 (num L 1 j : Nat)) (fun _ i => k + 1 - (intOf i).toNat)
  case atStart => exact ⟨0, by omega, rfl, rfl⟩
  case round =>
    obtain ⟨j, hj, rfl, rfl⟩ := hrel
    by_cases hlt : j < k
    · have c1 := hcl (1 + j) (by omega)
      have hr := num_lt_room L hL 1 j (by omega)
      have hl := hL (1 + j)
      clear hcl
      go_wp2
      go_round
      case rel => exact ⟨j + 1, by omega, by go_num, by rw [num]; simp⟩
      case measure => simp [intOf]; omega
    · obtain rfl : k = j := by omega
      have hlt8 := num_lt_le L hL 1 k hk8
      obtain ⟨z, hz⟩ : ∃ z, z = num L 1 k := ⟨_, rfl⟩
      rw [← hz] at hlt8
      rw [← hz]
      have e := FIN.out z hz
      clear hcl hlt hj hL FIN hz
      by_cases t3 : z < 56
      · rw [if_pos (.inl t3)] at e
        have HE : Hid (longH n L l k = ⟨l, 0, 0, false, false⟩) := e
        clear e
        go_wp2
        refine bodyPost_ret (results_tmp5 rfl _ _ _) rfl ?_
        exact ⟨by rw [HE.out]; exact hdV_mk rfl rfl rfl rfl rfl, rfl⟩
      · by_cases t4 : n < 1 + k + z
        · rw [if_pos (.inr t4)] at e
          have HE : Hid (longH n L l k = ⟨l, 0, 0, false, false⟩) := e
          clear e
          go_wp2
          refine bodyPost_ret (results_tmp5 rfl _ _ _) rfl ?_
          exact ⟨by rw [HE.out]; exact hdV_mk rfl rfl rfl rfl rfl, rfl⟩
        · rw [if_neg (by omega)] at e
          have HE : Hid (longH n L l k = ⟨l, 1 + k, 1 + k + z, true, true⟩) := e
          clear e
          go_wp2
          refine bodyPost_ret (results_tmp5 rfl _ _ _) rfl ?_
          exact ⟨by rw [HE.out]; exact hdV_mk rfl (by simp) (by simp) rfl rfl, rfl⟩

set_option maxRecDepth 100000 in
set_option maxHeartbeats 400000 in
theorem zzHead_empty (a : Option Addr) (c : Nat) (L : Nat → Nat) (w : World) :
    Calls Tryf.prog 21 #[.slice a 0 c] w fun e w' => e = .returned (hdV (headH 0 L)) ∧ w' = w := by
  go_enter Tryf.func21, Tryf.ntmps21
  go_wp2
  refine bodyPost_ret (results_tmp5 rfl _ _ _) rfl ?_
  exact ⟨hdV_mk rfl rfl rfl rfl rfl, rfl⟩
set_option maxRecDepth 100000 in
set_option maxHeartbeats 400000 in
theorem zzHead_one (x : Addr) (n c : Nat) (L : Nat → Nat) (w : World) (R : Nat) (hb : BR w R (some x) n L) (hp : 0 < n) (h0 : L 0 < 128) :
    Calls Tryf.prog 21 #[.slice (some x) n c] w fun e w' => e = .returned (hdV ⟨false, 0, 1, true, true⟩) ∧ w' = w := by
  obtain ⟨b, o, hx, hbR, hcl⟩ := hb.at hp
  cases hx
  have c0 := hcl 0 hp
  simp only [Nat.add_zero] at c0
  clear hcl
  go_enter Tryf.func21, Tryf.ntmps21
  go_wp2
  refine bodyPost_ret (results_tmp5 rfl _ _ _) rfl ?_
  exact ⟨hdV_mk rfl rfl rfl rfl rfl, rfl⟩

set_option maxRecDepth 100000 in
set_option maxHeartbeats 400000 in
theorem zzHead_short (x : Addr) (n c s : Nat) (L : Nat → Nat) (w : World) (R : Nat) (hb : BR w R (some x) n L) (hn : n ≤ 4194304) (hp : 0 < n) (h0 : L 0 = 128 + s) (hs : s < 56) :
    Calls Tryf.prog 21 #[.slice (some x) n c] w fun e w' => e = .returned (hdV (shortH n L false s)) ∧ w' = w := by
  obtain ⟨b, o, hx, hbR, hcl⟩ := hb.at hp
  cases hx
  have c0 : w.cell? ⟨b, o, none⟩ = some (.int .u8 (128 + (s : Int))) := by
    have := hcl 0 hp
    rw [h0] at this
    simpa using this
  clear hcl h0
  go_enter Tryf.func21, Tryf.ntmps21
  go_wp2_with fail
  rw [show (128 + (s : Int) - 128) = (s : Int) from by omega]
  refine (zzShort_any ⟨b, o, none⟩ n c s false L w R hb hn hp hs).mono ?_
  rintro e w' ⟨rfl, rfl⟩
  unfold hdV
  go_wp2
  refine bodyPost_ret (results_tmp5 rfl _ _ _) rfl ?_
  exact ⟨rfl, rfl⟩

set_option maxRecDepth 100000 in
set_option maxHeartbeats 400000 in
theorem zzHead_long (x : Addr) (n c s : Nat) (L : Nat → Nat) (w : World) (R : Nat) (hb : BR w R (some x) n L) (hn : n ≤ 4194304) (hp : 0 < n) (h0 : L 0 = 183 + s) (hL : ∀ i, L i < 256) (hs1 : 1 ≤ s) (hs8 : s ≤ 8) :
    Calls Tryf.prog 21 #[.slice (some x) n c] w fun e w' => e = .returned (hdV (longH n L false s)) ∧ w' = w := by
  obtain ⟨b, o, hx, hbR, hcl⟩ := hb.at hp
  cases hx
  have c0 : w.cell? ⟨b, o, none⟩ = some (.int .u8 (183 + (s : Int))) := by
    have := hcl 0 hp
    rw [h0] at this
    simpa using this
  clear hcl h0
  go_enter Tryf.func21, Tryf.ntmps21
  go_wp2_with fail
  rw [show (183 + (s : Int) - 183) = (s : Int) from by omega]
  refine (zzLong_any ⟨b, o, none⟩ n c s false L hL w R hb hn hp hs1 hs8).mono ?_
  rintro e w' ⟨rfl, rfl⟩
  unfold hdV
  go_wp2
  refine bodyPost_ret (results_tmp5 rfl _ _ _) rfl ?_
  exact ⟨rfl, rfl⟩

set_option maxRecDepth 100000 in
set_option maxHeartbeats 400000 in
theorem zzHead_shortL (x : Addr) (n c s : Nat) (L : Nat → Nat) (w : World) (R : Nat) (hb : BR w R (some x) n L) (hn : n ≤ 4194304) (hp : 0 < n) (h0 : L 0 = 192 + s) (hs : s < 56) :
    Calls Tryf.prog 21 #[.slice (some x) n c] w fun e w' => e = .returned (hdV (shortH n L true s)) ∧ w' = w := by
  obtain ⟨b, o, hx, hbR, hcl⟩ := hb.at hp
  cases hx
  have c0 : w.cell? ⟨b, o, none⟩ = some (.int .u8 (192 + (s : Int))) := by
    have := hcl 0 hp
    rw [h0] at this
    simpa using this
  clear hcl h0
  go_enter Tryf.func21, Tryf.ntmps21
  go_wp2_with fail
  rw [show (192 + (s : Int) - 192) = (s : Int) from by omega]
  refine (zzShort_any ⟨b, o, none⟩ n c s true L w R hb hn hp hs).mono ?_
  rintro e w' ⟨rfl, rfl⟩
  unfold hdV
  go_wp2
  refine bodyPost_ret (results_tmp5 rfl _ _ _) rfl ?_
  exact ⟨rfl, rfl⟩

set_option maxRecDepth 100000 in
set_option maxHeartbeats 400000 in
theorem zzHead_longL (x : Addr) (n c s : Nat) (L : Nat → Nat) (w : World) (R : Nat) (hb : BR w R (some x) n L) (hn : n ≤ 4194304) (hp : 0 < n) (h0 : L 0 = 247 + s) (hL : ∀ i, L i < 256) (hs1 : 1 ≤ s) (hs8 : s ≤ 8) :
    Calls Tryf.prog 21 #[.slice (some x) n c] w fun e w' => e = .returned (hdV (longH n L true s)) ∧ w' = w := by
  obtain ⟨b, o, hx, hbR, hcl⟩ := hb.at hp
  cases hx
  have c0 : w.cell? ⟨b, o, none⟩ = some (.int .u8 (247 + (s : Int))) := by
    have := hcl 0 hp
    rw [h0] at this
    simpa using this
  clear hcl h0
  go_enter Tryf.func21, Tryf.ntmps21
  go_wp2_with fail
  rw [show (247 + (s : Int) - 247) = (s : Int) from by omega]
  refine (zzLong_any ⟨b, o, none⟩ n c s true L hL w R hb hn hp hs1 hs8).mono ?_
  rintro e w' ⟨rfl, rfl⟩
  unfold hdV
  go_wp2
  refine bodyPost_ret (results_tmp5 rfl _ _ _) rfl ?_
  exact ⟨rfl, rfl⟩

/-- zzHead, whatever the bytes. -/
theorem zzHead_any (a : Option Addr) (n c : Nat) (L : Nat → Nat) (hL : ∀ i, L i < 256) (w : World) (R : Nat) (hb : BR w R a n L) (hn : n ≤ 4194304) :
    Calls Tryf.prog 21 #[.slice a n c] w fun e w' => e = .returned (hdV (headH n L)) ∧ w' = w := by
  by_cases hp : n = 0
  · subst hp
    exact zzHead_empty a c L w
  · cases a with
    | none => exact absurd (hb.1 rfl) hp
    | some x =>
      unfold headH
      rw [if_neg hp]
      split
      · exact zzHead_one x n c L w R hb (by omega) ‹_›
      split
      · exact zzHead_short x n c (L 0 - 128) L w R hb hn (by omega) (by omega) (by omega)
      split
      · exact zzHead_long x n c (L 0 - 183) L w R hb hn (by omega) (by omega) hL (by omega) (by omega)
      split
      · exact zzHead_shortL x n c (L 0 - 192) L w R hb hn (by omega) (by omega) (by omega)
      · have := hL 0
        exact zzHead_longL x n c (L 0 - 247) L w R hb hn (by omega) (by omega) hL (by omega) (by omega)
end Go.Proofs.Qxb6604339aFmt
