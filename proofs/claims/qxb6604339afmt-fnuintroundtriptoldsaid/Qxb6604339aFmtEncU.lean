/- zzEncUint: function 18. -/
import Derived.Test.Qxb6604339aFmtEncS
namespace Go.Proofs.Qxb6604339aFmt
open Go.RowKit
theorem and_byte (m : Nat) (h : m < 18446744073709551616) : bits .and .u64 (m : Int) 255 = (m : Int) % 256 := by
  have h1 := u64_and_nat m 255 h (by omega)
  have e : m &&& 255 = m % 256 := Nat.and_two_pow_sub_one_eq_mod m 8
  rw [e] at h1
  rw [show ((255 : Nat) : Int) = 255 from rfl] at h1
  rw [h1]
  omega

set_option maxRecDepth 100000 in
set_option maxHeartbeats 2000000 in
theorem encU_zero (b : Option Addr) (u t d : Nat) (T : Nat → Nat) (w : World) (ht : t ≤ 1048576) (hT : BR w w.heap.size b t T) (h0 : u = 0) :
    Calls Tryf.prog 18 #[.int .u64 (u : Nat), .slice b t d] w fun e w' => ∃ m, e = .returned (.slice (some ⟨w.heap.size, 0, none⟩) m (9 + t)) ∧ St w w' w.heap.size (9 + t) m ([128] ++ lst T t) := by
  obtain ⟨i0, hi, hz0, hz1, hz2⟩ := info_parts Tryf.info5
  obtain ⟨w1, hmk, hst⟩ := make_out (9 + t) (9 + (t : Int)) (by omega) (by omega) w
  have hhd : Hid (([128] : List Nat).length ≤ 1) := Nat.le_refl 1
  subst h0
  go_enter Tryf.func18, Tryf.ntmps18
  go_wp2_with (at_builtin; refine wpList_append_fits _ rfl (.tmp 17) (.tmp 18) 22 rfl w.heap.size 5 i0 1 Tryf.underlying22 hi hz1 w.heap.size 0 (9 + t) (([] : List Nat).map bv) rfl (hst.own.alloc _) ⟨w1.heap.size, 0, none⟩ 1 1 [.int .u8 128] rfl rfl (one_newV _ _) (by simp [Value.oneCell']) (by omega) ?_; intro w2 hown hgrow)
  have st2 := hst.push (v := 128) hown hgrow
  clear hown hgrow hst hmk
  go_loopw [5, 10] (fun v i wr => ∃ j m : Nat, j ≤ t ∧ i = .int .i64 j ∧ v = .slice (some ⟨w.heap.size, 0, none⟩) m (9 + t) ∧ St w wr w.heap.size (9 + t) m ([128] ++ lst T j)) (fun _ i _ => t - (intOf i).toNat)
  case atStart => exact ⟨0, 1, by omega, rfl, rfl, by simpa [lst] using st2⟩
  case round =>
    obtain ⟨j, m, hj, rfl, rfl, st⟩ := hrel
    have hlm := st.length
    have hm : m ≤ 1 + j := by have := hhd.out; simp only [List.length_append, lst_length] at hlm this; omega
    clear hlm
    by_cases hlt : j < t
    · obtain ⟨xb, xo, hxe, hxR, hxc⟩ := (hT.below st.bel).at (by omega)
      cases hxe
      have c1 := hxc j hlt
      clear hxc
      go_wp2_with (at_builtin; refine wpList_append_fits _ rfl (.tmp 67) (.tmp 72) 22 rfl w.heap.size 5 i0 1 Tryf.underlying22 hi hz1 w.heap.size m (9 + t) (([128] ++ lst T j).map bv) rfl (st.own.alloc _) ⟨wr.heap.size, 0, none⟩ 1 1 [bv (T j)] rfl rfl (one_new _ _) (by simp [bv, Value.oneCell']) (by omega) ?_; intro w3 hown hgrow)
      have st3 := st.push hown hgrow
      have ST : Hid (St w w3 w.heap.size (9 + t) (m + 1) ([128] ++ lst T (j + 1))) := by rw [lst_succ, ← List.append_assoc]; exact st3
      clear hown hgrow c1 st st3
      go_wp2
      go_roundw
      case rel => exact ⟨j + 1, m + 1, by omega, by go_num, rfl, ST.out⟩
      case measure => simp [intOf]; omega
    · obtain rfl : t = j := by omega
      go_wp2
      go_ret
      exact ⟨m, rfl, by simpa using st⟩

set_option maxRecDepth 100000 in
set_option maxHeartbeats 2000000 in
theorem encU_small (b : Option Addr) (u t d : Nat) (T : Nat → Nat) (w : World) (ht : t ≤ 1048576) (hT : BR w w.heap.size b t T) (h0 : u ≠ 0) (h1 : u < 128) :
    Calls Tryf.prog 18 #[.int .u64 (u : Nat), .slice b t d] w fun e w' => ∃ m, e = .returned (.slice (some ⟨w.heap.size, 0, none⟩) m (9 + t)) ∧ St w w' w.heap.size (9 + t) m ([u] ++ lst T t) := by
  obtain ⟨i0, hi, hz0, hz1, hz2⟩ := info_parts Tryf.info5
  obtain ⟨w1, hmk, hst⟩ := make_out (9 + t) (9 + (t : Int)) (by omega) (by omega) w
  have hhd : Hid (([u] : List Nat).length ≤ 1) := Nat.le_refl 1
  have hq : ((u : Int) == 0) = false := by simp; omega
  go_enter Tryf.func18, Tryf.ntmps18
  go_wp2_with (at_builtin; refine wpList_append_fits _ rfl (.tmp 22) (.tmp 25) 22 rfl w.heap.size 5 i0 1 Tryf.underlying22 hi hz1 w.heap.size 0 (9 + t) (([] : List Nat).map bv) rfl (hst.own.alloc _) ⟨w1.heap.size, 0, none⟩ 1 1 [.int .u8 (u : Nat)] rfl rfl (one_newV _ _) (by simp [Value.oneCell']) (by omega) ?_; intro w2 hown hgrow)
  have st2 := hst.push (v := u) hown hgrow
  clear hown hgrow hst hmk
  go_loopw [5, 10] (fun v i wr => ∃ j m : Nat, j ≤ t ∧ i = .int .i64 j ∧ v = .slice (some ⟨w.heap.size, 0, none⟩) m (9 + t) ∧ St w wr w.heap.size (9 + t) m ([u] ++ lst T j)) (fun _ i _ => t - (intOf i).toNat)
  case atStart => exact ⟨0, 1, by omega, rfl, rfl, by simpa [lst] using st2⟩
  case round =>
    obtain ⟨j, m, hj, rfl, rfl, st⟩ := hrel
    have hlm := st.length
    have hm : m ≤ 1 + j := by have := hhd.out; simp only [List.length_append, lst_length] at hlm this; omega
    clear hlm
    by_cases hlt : j < t
    · obtain ⟨xb, xo, hxe, hxR, hxc⟩ := (hT.below st.bel).at (by omega)
      cases hxe
      have c1 := hxc j hlt
      clear hxc
      go_wp2_with (at_builtin; refine wpList_append_fits _ rfl (.tmp 67) (.tmp 72) 22 rfl w.heap.size 5 i0 1 Tryf.underlying22 hi hz1 w.heap.size m (9 + t) (([u] ++ lst T j).map bv) rfl (st.own.alloc _) ⟨wr.heap.size, 0, none⟩ 1 1 [bv (T j)] rfl rfl (one_new _ _) (by simp [bv, Value.oneCell']) (by omega) ?_; intro w3 hown hgrow)
      have st3 := st.push hown hgrow
      have ST : Hid (St w w3 w.heap.size (9 + t) (m + 1) ([u] ++ lst T (j + 1))) := by rw [lst_succ, ← List.append_assoc]; exact st3
      clear hown hgrow c1 st st3
      go_wp2
      go_roundw
      case rel => exact ⟨j + 1, m + 1, by omega, by go_num, rfl, ST.out⟩
      case measure => simp [intOf]; omega
    · obtain rfl : t = j := by omega
      go_wp2
      go_ret
      exact ⟨m, rfl, by simpa using st⟩

set_option maxRecDepth 100000 in
set_option maxHeartbeats 2000000 in
theorem encU_long (b : Option Addr) (u t d : Nat) (T : Nat → Nat) (w : World) (ht : t ≤ 1048576) (hT : BR w w.heap.size b t T) (h0 : 128 ≤ u) (h1 : u < 18446744073709551616) :
    Calls Tryf.prog 18 #[.int .u64 (u : Nat), .slice b t d] w fun e w' => ∃ m, e = .returned (.slice (some ⟨w.heap.size, 0, none⟩) m (9 + t)) ∧ St w w' w.heap.size (9 + t) m (((128 + (digs 8 u).length) :: (digs 8 u).reverse) ++ lst T t) := by
  obtain ⟨i0, hi, hz0, hz1, hz2⟩ := info_parts Tryf.info5
  obtain ⟨w1, hmk, hst⟩ := make_out (9 + t) (9 + (t : Int)) (by omega) (by omega) w
  have hq : ((u : Int) == 0) = false := by simp; omega
  have HP : Hid (u < 256 ^ 8) := by show _ < _; rw [show (256 : Nat) ^ 8 = 18446744073709551616 from by decide]; exact h1
  go_enter Tryf.func18, Tryf.ntmps18
  go_wp2
  have hD := hst.lt
  obtain ⟨D, hDe⟩ : ∃ D, D = w1.heap.size := ⟨_, rfl⟩
  rw [← hDe]
  rw [← hDe] at hD
  have HD : Hid (D = w1.heap.size) := hDe
  clear hDe hmk
  go_loopw [7, 8] (fun kv mv wr => ∃ (j m : Nat) (ds : List Nat), j ≤ 8 ∧ kv = .int .i64 j ∧ mv = .int .u64 m ∧ m ≤ u ∧ ds.length = j ∧ digs 8 u = ds ++ digs (8 - j) m ∧ m < 256 ^ (8 - j) ∧ wr.rowIs D 47 8 (fun i => bv (ds.getD i 0)) ∧ St w wr w.heap.size (9 + t) 0 []) (fun _ mv _ => (intOf mv).toNat)
  case atStart =>
    refine ⟨0, u, [], by omega, rfl, rfl, Nat.le_refl _, rfl, rfl, HP.out, ?_, hst.allocO _⟩
    rw [HD.out]
    refine ⟨_, Deep.blk_alloc_new _ _, rfl, fun i hi => ?_⟩
    rcases (show i = 0 ∨ i = 1 ∨ i = 2 ∨ i = 3 ∨ i = 4 ∨ i = 5 ∨ i = 6 ∨ i = 7 from by omega) with h | h | h | h | h | h | h | h <;> subst h <;> rfl
  case round =>
    clear hst
    obtain ⟨j, m, ds, hj, rfl, rfl, hmn, hl, hds, hpw, hrow, hst⟩ := hrel
    have HL : Hid (ds.length = j) := hl
    have HDS : Hid (digs 8 u = ds ++ digs (8 - j) m) := hds
    have HPW : Hid (m < 256 ^ (8 - j)) := hpw
    clear hl hds hpw
    by_cases hgo : 0 < m ∧ j < 8
    · obtain ⟨hm0, hj8⟩ := hgo
      have r1 := hrow.cell (i := j) hj8
      have r2 := hrow.frozen j
      have han := and_byte m (by omega)
      have hset : Hid ((wr.setCell ⟨D, j, none⟩ (.int .u8 ((m : Int) % 256))).rowIs D 47 8 (fun i => bv ((ds ++ [m % 256]).getD i 0))) := digit_row HL.out hrow
      have hst' : Hid (St w (wr.setCell ⟨D, j, none⟩ (.int .u8 ((m : Int) % 256))) w.heap.size (9 + t) 0 []) := hst.setOther hD _
      have HDS' : Hid (digs 8 u = (ds ++ [m % 256]) ++ digs (8 - (j + 1)) (m / 256)) := by
        rw [HDS.out, show 8 - j = (8 - (j + 1)) + 1 from by omega, digs_step _ _ hm0, List.append_assoc]; rfl
      have HPW' : Hid (m / 256 < 256 ^ (8 - (j + 1))) := by
        have := HPW.out
        rw [show 8 - j = (8 - (j + 1)) + 1 from by omega, Nat.pow_succ] at this
        show _ < _
        exact Nat.div_lt_of_lt_mul (by rw [Nat.mul_comm]; exact this)
      clear hrow hst
      go_wp2
      go_roundw
      case rel => exact ⟨j + 1, m / 256, ds ++ [m % 256], by omega, by go_num, by go_num, by omega, by rw [List.length_append, HL.out]; rfl, HDS'.out, HPW'.out, hset.out, hst'.out⟩
      case measure => simp [intOf]; omega
    · have hm0 : m = 0 := by
        by_cases h8 : j < 8
        · omega
        · have := HPW.out
          rw [show 8 - j = 0 from by omega] at this
          simpa using this
      subst hm0
      have HDS2 : Hid (digs 8 u = ds) := by show _ = _; rw [HDS.out, digs_zero, List.append_nil]
      clear hgo HDS HPW
      have eb : (Value.int .u8 (128 + (j : Int))) = bv (128 + j) := by simp [bv]
      have HB : Hid _ := eb
      clear eb
      go_wp2_with (at_builtin; refine wpList_append_fits _ rfl (.tmp 43) (.tmp 47) 22 rfl w.heap.size 5 i0 1 Tryf.underlying22 hi hz1 w.heap.size 0 (9 + t) (([] : List Nat).map bv) rfl (hst.own.alloc _) ⟨wr.heap.size, 0, none⟩ 1 1 [.int .u8 (128 + (j : Int))] rfl rfl (one_newV _ _) (by simp [Value.oneCell']) (by omega) ?_; intro w2 hown hgrow)
      rw [HB.out] at hown
      have st2 := hst.push hown hgrow
      have hrow2 := row_kept hrow (by omega) hgrow
      clear hown hgrow hst hrow
      go_loopw [5, 9] (fun v i wr => ∃ (m2 : Nat) (q : Int), -1 ≤ q ∧ q < j ∧ i = .int .i64 q ∧ v = .slice (some ⟨w.heap.size, 0, none⟩) m2 (9 + t) ∧ St w wr w.heap.size (9 + t) m2 ((128 + j) :: (ds.drop (q + 1).toNat).reverse) ∧ wr.rowIs D 47 8 (fun i => bv (ds.getD i 0))) (fun _ i _ => (intOf i + 1).toNat)
      case atStart => exact ⟨1, (j : Int) - 1, by omega, by omega, rfl, rfl, by rw [show ((j : Int) - 1 + 1).toNat = ds.length from by have := HL.out; omega, List.drop_length]; exact st2, hrow2⟩
      case round =>
        clear st2 hrow2
        obtain ⟨m2, q, hq1, hq2, rfl, rfl, st, hrow⟩ := hrel
        by_cases hqe : q = -1
        · subst hqe
          obtain ⟨hd, hhde⟩ : ∃ hd, hd = (128 + j) :: ds.reverse := ⟨_, rfl⟩
          have hhd : Hid (hd.length ≤ 9) := by show _ ≤ _; have := HL.out; rw [hhde]; simp; omega
          have hst3 : St w wr w.heap.size (9 + t) m2 hd := by rw [hhde]; simpa using st
          have FE : Hid ((128 + (digs 8 u).length) :: (digs 8 u).reverse = hd) := by show _ = _; rw [HDS2.out, HL.out, hhde]
          clear st hrow hhde HDS2 HL
          go_wp2
          go_loopw [5, 10] (fun v i wr => ∃ j m : Nat, j ≤ t ∧ i = .int .i64 j ∧ v = .slice (some ⟨w.heap.size, 0, none⟩) m (9 + t) ∧ St w wr w.heap.size (9 + t) m (hd ++ lst T j)) (fun _ i _ => t - (intOf i).toNat)
          case atStart => exact ⟨0, m2, by omega, rfl, rfl, by simpa [lst] using hst3⟩
          case round =>
            obtain ⟨j, m, hj, rfl, rfl, st⟩ := hrel
            have hlm := st.length
            have hm : m ≤ 9 + j := by have := hhd.out; simp only [List.length_append, lst_length] at hlm this; omega
            clear hlm
            by_cases hlt : j < t
            · obtain ⟨xb, xo, hxe, hxR, hxc⟩ := (hT.below st.bel).at (by omega)
              cases hxe
              have c1 := hxc j hlt
              clear hxc
              go_wp2_with (at_builtin; refine wpList_append_fits _ rfl (.tmp 67) (.tmp 72) 22 rfl w.heap.size 5 i0 1 Tryf.underlying22 hi hz1 w.heap.size m (9 + t) ((hd ++ lst T j).map bv) rfl (st.own.alloc _) ⟨wr.heap.size, 0, none⟩ 1 1 [bv (T j)] rfl rfl (one_new _ _) (by simp [bv, Value.oneCell']) (by omega) ?_; intro w3 hown hgrow)
              have st3 := st.push hown hgrow
              have ST : Hid (St w w3 w.heap.size (9 + t) (m + 1) (hd ++ lst T (j + 1))) := by rw [lst_succ, ← List.append_assoc]; exact st3
              clear hown hgrow c1 st st3
              go_wp2
              go_roundw
              case rel => exact ⟨j + 1, m + 1, by omega, by go_num, rfl, ST.out⟩
              case measure => simp [intOf]; omega
            · obtain rfl : t = j := by omega
              go_wp2
              go_ret
              exact ⟨m, rfl, by simp only [← List.cons_append, FE.out]; exact st⟩

        · obtain ⟨p, rfl⟩ : ∃ p : Nat, q = p := ⟨q.toNat, by omega⟩
          have hlm := st.length
          have hm2 : m2 + p ≤ j := by have := HL.out; simp at hlm; omega
          have r1 := hrow.cell (i := p) (by omega)
          have hdr : Hid (ds.drop ((p : Int)).toNat = ds.getD p 0 :: ds.drop ((p : Int) + 1).toNat) := by
            have hlen := HL.out
            show _ = _
            rw [show ((p : Int)).toNat = p from by omega, show ((p : Int) + 1).toNat = p + 1 from by omega, List.drop_eq_getElem_cons (by omega)]
            simp [List.getD_eq_getElem?_getD, List.getElem?_eq_getElem (show p < ds.length by omega)]
          obtain ⟨z, hz⟩ : ∃ z, z = ds.getD p 0 := ⟨_, rfl⟩
          rw [← hz] at r1 hdr
          clear hlm hqe hz
          unfold bv at r1
          go_wp2_with (at_builtin; refine wpList_append_fits _ rfl (.tmp 55) (.tmp 59) 22 rfl w.heap.size 5 i0 1 Tryf.underlying22 hi hz1 w.heap.size m2 (9 + t) (((128 + j) :: (ds.drop ((p : Int) + 1).toNat).reverse).map bv) rfl (st.own.alloc _) ⟨wr.heap.size, 0, none⟩ 1 1 [.int .u8 (z : Nat)] rfl rfl (one_newV _ _) (by simp [Value.oneCell']) (by omega) ?_; intro w3 hown hgrow)
          have st3 := st.push hown hgrow
          have hrow3 := row_kept hrow (by omega) hgrow
          have ST : Hid (St w w3 w.heap.size (9 + t) (m2 + 1) ((128 + j) :: (ds.drop ((p : Int) - 1 + 1).toNat).reverse)) := by
            rw [show ((p : Int) - 1 + 1).toNat = (p : Int).toNat from by omega, hdr.out, List.reverse_cons]; exact st3
          clear hown hgrow st st3 hrow r1 hdr
          go_wp2
          go_roundw
          case rel => exact ⟨m2 + 1, (p : Int) - 1, by omega, by omega, rfl, rfl, ST.out, hrow3⟩
          case measure => simp [intOf]

/-- The bytes that stand for a number. -/
def encU (u : Nat) : List Nat := if u = 0 then [128] else if u < 128 then [u] else (128 + (digs 8 u).length) :: (digs 8 u).reverse
theorem encU_any (b : Option Addr) (u t d : Nat) (T : Nat → Nat) (w : World) (hu : u < 18446744073709551616) (ht : t ≤ 1048576) (hT : BR w w.heap.size b t T) :
    Calls Tryf.prog 18 #[.int .u64 (u : Nat), .slice b t d] w fun e w' => ∃ m, e = .returned (.slice (some ⟨w.heap.size, 0, none⟩) m (9 + t)) ∧ St w w' w.heap.size (9 + t) m (encU u ++ lst T t) := by
  unfold encU
  by_cases h1 : u = 0
  · rw [if_pos h1]
    exact encU_zero b u t d T w ht hT h1
  · rw [if_neg h1]
    by_cases h2 : u < 128
    · rw [if_pos h2]
      exact encU_small b u t d T w ht hT h1 h2
    · rw [if_neg h2]
      exact encU_long b u t d T w ht hT (by omega) hu
end Go.Proofs.Qxb6604339aFmt
