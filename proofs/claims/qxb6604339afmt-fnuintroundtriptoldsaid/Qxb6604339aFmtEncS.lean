/- zzEncString: function 11. -/
import Derived.Test.Qxb6604339aFmtOut
namespace Go.Proofs.Qxb6604339aFmt
open Go.RowKit

theorem make_out (C : Nat) (z : Int) (hz : z = C) (hC : C ≤ 4194304) (w : World) : ∃ w1, (Instr.makeSlice 22 (.int .i64 0) (.int .i64 z)).run Tryf.prog w = .ok (.slice (some ⟨w.heap.size, 0, none⟩) 0 C) w1 ∧ St w w1 w.heap.size C 0 [] := by
  obtain ⟨i0, hi, hz0, hz1, hz2⟩ := info_parts Tryf.info5
  obtain ⟨w1, h1, h2, h3⟩ := run_make_own (P := Tryf.prog) w w.heap.size 22 5 i0 (.int .u8 0) 1 Tryf.underlying22 hi hz0 hz1 .i64 .i64 C (by rw [hz2]; omega) (by unfold maxLen; omega) (Nat.le_refl _)
  subst hz
  exact ⟨w1, h1, St.start w C h2 h3⟩

set_option maxRecDepth 100000 in
set_option maxHeartbeats 1000000 in
theorem encS_one (a b : Option Addr) (n t c d : Nat) (P T : Nat → Nat) (w : World) (hn : n ≤ 1048576) (ht : t ≤ 1048576) (hP : BR w w.heap.size a n P) (hT : BR w w.heap.size b t T) (h1 : n = 1) (h2 : P 0 < 128) :
    Calls Tryf.prog 11 #[.slice a n c, .slice b t d] w fun e w' => ∃ m, e = .returned (.slice (some ⟨w.heap.size, 0, none⟩) m (n + 9 + t)) ∧ St w w' w.heap.size (n + 9 + t) m (lst P n ++ lst T t) := by
  obtain ⟨i0, hi, hz0, hz1, hz2⟩ := info_parts Tryf.info5
  obtain ⟨w1, hmk, hst⟩ := make_out (n + 9 + t) ((n : Int) + 9 + t) (by omega) (by omega) w
  obtain ⟨pb, po, rfl, hpR, hpc⟩ := hP.at (by omega)
  have p0 : w1.cell? ⟨pb, po, none⟩ = some (.int .u8 (P 0 : Nat)) := (hst.bel.cell (by exact hpR)).trans (by simpa using hpc 0 (by omega))
  have hq : ((n : Int) == 1) = true := by simp; omega
  have HN : Hid (n = 1) := h1
  have hpos : 0 < n := by omega
  have hhd : Hid (([P 0] : List Nat).length ≤ 1) := Nat.le_refl 1
  clear h1 hpc
  go_enter Tryf.func11, Tryf.ntmps11
  go_wp2_with (at_builtin; refine wpList_append_fits _ rfl (.tmp 29) (.tmp 33) 22 rfl w.heap.size 5 i0 1 Tryf.underlying22 hi hz1 w.heap.size 0 (n + 9 + t) (([] : List Nat).map bv) rfl (hst.own.alloc _) ⟨w1.heap.size, 0, none⟩ 1 1 [bv (P 0)] rfl rfl (one_new _ _) (by simp [bv, Value.oneCell']) (by omega) ?_; intro w2 hown hgrow)
  have st2 := hst.push hown hgrow
  clear hown hgrow hst p0 hmk
  go_loopw [6, 12] (fun v i wr => ∃ j m : Nat, j ≤ t ∧ i = .int .i64 j ∧ v = .slice (some ⟨w.heap.size, 0, none⟩) m (n + 9 + t) ∧ St w wr w.heap.size (n + 9 + t) m ([P 0] ++ lst T j)) (fun _ i _ => t - (intOf i).toNat)
  case atStart => exact ⟨0, 1, by omega, rfl, rfl, by simpa [lst] using st2⟩
  case round =>
    obtain ⟨j, m, hj, rfl, rfl, st⟩ := hrel
    have hlm := st.length
    have hm : m ≤ 1 + j := by have := hhd.out; simp only [List.length_append, lst_length] at hlm this; omega
    clear hlm
    by_cases hlt : j < t
    · obtain ⟨xb, xo, hxe, hxR, hxc⟩ := (hT.below st.bel).at (by omega)
      cases hxe
      have c1 := hxc j hlt
      clear hxc
      go_wp2_with (at_builtin; refine wpList_append_fits _ rfl (.tmp 95) (.tmp 100) 22 rfl w.heap.size 5 i0 1 Tryf.underlying22 hi hz1 w.heap.size m (n + 9 + t) (([P 0] ++ lst T j).map bv) rfl (st.own.alloc _) ⟨wr.heap.size, 0, none⟩ 1 1 [bv (T j)] rfl rfl (one_new _ _) (by simp [bv, Value.oneCell']) (by omega) ?_; intro w3 hown hgrow)
      have st3 := st.push hown hgrow
      have ST : Hid (St w w3 w.heap.size (n + 9 + t) (m + 1) ([P 0] ++ lst T (j + 1))) := by rw [lst_succ, ← List.append_assoc]; exact st3
      clear hown hgrow c1 st st3
      go_wp2
      go_roundw
      case rel => exact ⟨j + 1, m + 1, by omega, by go_num, rfl, ST.out⟩
      case measure => simp [intOf]; omega
    · obtain rfl : t = j := by omega
      go_wp2
      go_ret
      exact ⟨m, rfl, by rw [show lst P n = [P 0] from by rw [HN.out]; rfl]; exact st⟩

set_option maxRecDepth 100000 in
set_option maxHeartbeats 2000000 in
theorem encS_short (a b : Option Addr) (n t c d : Nat) (P T : Nat → Nat) (w : World) (hn : n ≤ 55) (ht : t ≤ 1048576) (hP : BR w w.heap.size a n P) (hT : BR w w.heap.size b t T) (h1 : ¬ (n = 1 ∧ P 0 < 128)) :
    Calls Tryf.prog 11 #[.slice a n c, .slice b t d] w fun e w' => ∃ m, e = .returned (.slice (some ⟨w.heap.size, 0, none⟩) m (n + 9 + t)) ∧ St w w' w.heap.size (n + 9 + t) m ((128 + n) :: lst P n ++ lst T t) := by
  obtain ⟨i0, hi, hz0, hz1, hz2⟩ := info_parts Tryf.info5
  obtain ⟨w1, hmk, hst⟩ := make_out (n + 9 + t) ((n : Int) + 9 + t) (by omega) (by omega) w
  have hhd : Hid (([128 + n] : List Nat).length ≤ 1) := Nat.le_refl 1
  have eb : (Value.int .u8 (128 + (n : Int))) = bv (128 + n) := by simp [bv]
  have HB : Hid _ := eb
  clear eb
  by_cases hn1 : n = 1
  · have h2 : ¬ P 0 < 128 := fun h => h1 ⟨hn1, h⟩
    obtain ⟨pb, po, rfl, hpR, hpc⟩ := hP.at (by omega)
    have p0 : w1.cell? ⟨pb, po, none⟩ = some (.int .u8 (P 0 : Nat)) := (hst.bel.cell (by exact hpR)).trans (by simpa using hpc 0 (by omega))
    have hq : ((n : Int) == 1) = true := by simp; omega
    have hpos : 0 < n := by omega
    clear h1 hn1 hpc
    go_enter Tryf.func11, Tryf.ntmps11
    go_wp2_with (at_builtin; refine wpList_append_fits _ rfl (.tmp 37) (.tmp 41) 22 rfl w.heap.size 5 i0 1 Tryf.underlying22 hi hz1 w.heap.size 0 (n + 9 + t) (([] : List Nat).map bv) rfl (hst.own.alloc _) ⟨w1.heap.size, 0, none⟩ 1 1 [.int .u8 (128 + (n : Int))] rfl rfl (one_newV _ _) (by simp [Value.oneCell']) (by omega) ?_; intro w2 hown hgrow)
    rw [HB.out] at hown
    have st2 := hst.push hown hgrow
    clear hown hgrow hst p0 hmk
    go_loopw [6, 11] (fun v i wr => ∃ j m : Nat, j ≤ n ∧ i = .int .i64 j ∧ v = .slice (some ⟨w.heap.size, 0, none⟩) m (n + 9 + t) ∧ St w wr w.heap.size (n + 9 + t) m ([128 + n] ++ lst P j)) (fun _ i _ => n - (intOf i).toNat)
    case atStart => exact ⟨0, 1, by omega, rfl, rfl, by simpa [lst] using st2⟩
    case round =>
      obtain ⟨j, m, hj, rfl, rfl, st⟩ := hrel
      have hlm := st.length
      have hm : m ≤ 1 + j := by have := hhd.out; simp only [List.length_append, lst_length] at hlm this; omega
      clear hlm
      by_cases hlt : j < n
      · obtain ⟨xb, xo, hxe, hxR, hxc⟩ := (hP.below st.bel).at (by omega)
        cases hxe
        have c1 := hxc j hlt
        clear hxc
        go_wp2_with (at_builtin; refine wpList_append_fits _ rfl (.tmp 82) (.tmp 87) 22 rfl w.heap.size 5 i0 1 Tryf.underlying22 hi hz1 w.heap.size m (n + 9 + t) (([128 + n] ++ lst P j).map bv) rfl (st.own.alloc _) ⟨wr.heap.size, 0, none⟩ 1 1 [bv (P j)] rfl rfl (one_new _ _) (by simp [bv, Value.oneCell']) (by omega) ?_; intro w3 hown hgrow)
        have st3 := st.push hown hgrow
        have ST : Hid (St w w3 w.heap.size (n + 9 + t) (m + 1) ([128 + n] ++ lst P (j + 1))) := by rw [lst_succ, ← List.append_assoc]; exact st3
        clear hown hgrow c1 st st3
        go_wp2
        go_roundw
        case rel => exact ⟨j + 1, m + 1, by omega, by go_num, rfl, ST.out⟩
        case measure => simp [intOf]; omega
      · obtain rfl : n = j := by omega
        have hhd2 : Hid (([128 + n] ++ lst P n).length ≤ 1 + n) := by have := hhd.out; show _ ≤ _; simp only [List.length_append, lst_length]; omega
        clear hhd hm hlt hj
        go_wp2
        go_loopw [6, 12] (fun v i wr => ∃ j m : Nat, j ≤ t ∧ i = .int .i64 j ∧ v = .slice (some ⟨w.heap.size, 0, none⟩) m (n + 9 + t) ∧ St w wr w.heap.size (n + 9 + t) m (([128 + n] ++ lst P n) ++ lst T j)) (fun _ i _ => t - (intOf i).toNat)
        case atStart => exact ⟨0, m, by omega, rfl, rfl, by simpa [lst] using st⟩
        case round =>
          obtain ⟨j, m, hj, rfl, rfl, st⟩ := hrel
          have hlm := st.length
          have hm : m ≤ 1 + n + j := by have := hhd2.out; simp only [List.length_append, lst_length] at hlm this; omega
          clear hlm
          by_cases hlt : j < t
          · obtain ⟨xb, xo, hxe, hxR, hxc⟩ := (hT.below st.bel).at (by omega)
            cases hxe
            have c1 := hxc j hlt
            clear hxc
            go_wp2_with (at_builtin; refine wpList_append_fits _ rfl (.tmp 95) (.tmp 100) 22 rfl w.heap.size 5 i0 1 Tryf.underlying22 hi hz1 w.heap.size m (n + 9 + t) ((([128 + n] ++ lst P n) ++ lst T j).map bv) rfl (st.own.alloc _) ⟨wr.heap.size, 0, none⟩ 1 1 [bv (T j)] rfl rfl (one_new _ _) (by simp [bv, Value.oneCell']) (by omega) ?_; intro w3 hown hgrow)
            have st3 := st.push hown hgrow
            have ST : Hid (St w w3 w.heap.size (n + 9 + t) (m + 1) (([128 + n] ++ lst P n) ++ lst T (j + 1))) := by rw [lst_succ, ← List.append_assoc]; exact st3
            clear hown hgrow c1 st st3
            go_wp2
            go_roundw
            case rel => exact ⟨j + 1, m + 1, by omega, by go_num, rfl, ST.out⟩
            case measure => simp [intOf]; omega
          · obtain rfl : t = j := by omega
            go_wp2
            go_ret
            exact ⟨m, rfl, by simpa using st⟩

  · have hq : ((n : Int) == 1) = false := by simp; omega
    clear h1 hn1
    go_enter Tryf.func11, Tryf.ntmps11
    go_wp2_with (at_builtin; refine wpList_append_fits _ rfl (.tmp 37) (.tmp 41) 22 rfl w.heap.size 5 i0 1 Tryf.underlying22 hi hz1 w.heap.size 0 (n + 9 + t) (([] : List Nat).map bv) rfl (hst.own.alloc _) ⟨w1.heap.size, 0, none⟩ 1 1 [.int .u8 (128 + (n : Int))] rfl rfl (one_newV _ _) (by simp [Value.oneCell']) (by omega) ?_; intro w2 hown hgrow)
    rw [HB.out] at hown
    have st2 := hst.push hown hgrow
    clear hown hgrow hst hmk
    go_loopw [6, 11] (fun v i wr => ∃ j m : Nat, j ≤ n ∧ i = .int .i64 j ∧ v = .slice (some ⟨w.heap.size, 0, none⟩) m (n + 9 + t) ∧ St w wr w.heap.size (n + 9 + t) m ([128 + n] ++ lst P j)) (fun _ i _ => n - (intOf i).toNat)
    case atStart => exact ⟨0, 1, by omega, rfl, rfl, by simpa [lst] using st2⟩
    case round =>
      obtain ⟨j, m, hj, rfl, rfl, st⟩ := hrel
      have hlm := st.length
      have hm : m ≤ 1 + j := by have := hhd.out; simp only [List.length_append, lst_length] at hlm this; omega
      clear hlm
      by_cases hlt : j < n
      · obtain ⟨xb, xo, hxe, hxR, hxc⟩ := (hP.below st.bel).at (by omega)
        cases hxe
        have c1 := hxc j hlt
        clear hxc
        go_wp2_with (at_builtin; refine wpList_append_fits _ rfl (.tmp 82) (.tmp 87) 22 rfl w.heap.size 5 i0 1 Tryf.underlying22 hi hz1 w.heap.size m (n + 9 + t) (([128 + n] ++ lst P j).map bv) rfl (st.own.alloc _) ⟨wr.heap.size, 0, none⟩ 1 1 [bv (P j)] rfl rfl (one_new _ _) (by simp [bv, Value.oneCell']) (by omega) ?_; intro w3 hown hgrow)
        have st3 := st.push hown hgrow
        have ST : Hid (St w w3 w.heap.size (n + 9 + t) (m + 1) ([128 + n] ++ lst P (j + 1))) := by rw [lst_succ, ← List.append_assoc]; exact st3
        clear hown hgrow c1 st st3
        go_wp2
        go_roundw
        case rel => exact ⟨j + 1, m + 1, by omega, by go_num, rfl, ST.out⟩
        case measure => simp [intOf]; omega
      · obtain rfl : n = j := by omega
        have hhd2 : Hid (([128 + n] ++ lst P n).length ≤ 1 + n) := by have := hhd.out; show _ ≤ _; simp only [List.length_append, lst_length]; omega
        clear hhd hm hlt hj
        go_wp2
        go_loopw [6, 12] (fun v i wr => ∃ j m : Nat, j ≤ t ∧ i = .int .i64 j ∧ v = .slice (some ⟨w.heap.size, 0, none⟩) m (n + 9 + t) ∧ St w wr w.heap.size (n + 9 + t) m (([128 + n] ++ lst P n) ++ lst T j)) (fun _ i _ => t - (intOf i).toNat)
        case atStart => exact ⟨0, m, by omega, rfl, rfl, by simpa [lst] using st⟩
        case round =>
          obtain ⟨j, m, hj, rfl, rfl, st⟩ := hrel
          have hlm := st.length
          have hm : m ≤ 1 + n + j := by have := hhd2.out; simp only [List.length_append, lst_length] at hlm this; omega
          clear hlm
          by_cases hlt : j < t
          · obtain ⟨xb, xo, hxe, hxR, hxc⟩ := (hT.below st.bel).at (by omega)
            cases hxe
            have c1 := hxc j hlt
            clear hxc
            go_wp2_with (at_builtin; refine wpList_append_fits _ rfl (.tmp 95) (.tmp 100) 22 rfl w.heap.size 5 i0 1 Tryf.underlying22 hi hz1 w.heap.size m (n + 9 + t) ((([128 + n] ++ lst P n) ++ lst T j).map bv) rfl (st.own.alloc _) ⟨wr.heap.size, 0, none⟩ 1 1 [bv (T j)] rfl rfl (one_new _ _) (by simp [bv, Value.oneCell']) (by omega) ?_; intro w3 hown hgrow)
            have st3 := st.push hown hgrow
            have ST : Hid (St w w3 w.heap.size (n + 9 + t) (m + 1) (([128 + n] ++ lst P n) ++ lst T (j + 1))) := by rw [lst_succ, ← List.append_assoc]; exact st3
            clear hown hgrow c1 st st3
            go_wp2
            go_roundw
            case rel => exact ⟨j + 1, m + 1, by omega, by go_num, rfl, ST.out⟩
            case measure => simp [intOf]; omega
          · obtain rfl : t = j := by omega
            go_wp2
            go_ret
            exact ⟨m, rfl, by simpa using st⟩

theorem digit_row {wr : World} {D j m : Nat} {ds : List Nat} (hl : ds.length = j) (h : wr.rowIs D 47 8 (fun i => bv (ds.getD i 0))) :
    (wr.setCell ⟨D, j, none⟩ (.int .u8 ((m : Int) % 256))).rowIs D 47 8 (fun i => bv ((ds ++ [m % 256]).getD i 0)) :=
  (h.set j (.int .u8 ((m : Int) % 256))).congr fun i _ => by
    show (if i = j then _ else bv (ds.getD i 0)) = _
    by_cases e : i = j
    · subst e; subst hl; simp [bv]
    · rw [if_neg e]
      simp only [List.getD_eq_getElem?_getD, List.getElem?_append]
      by_cases e2 : i < ds.length
      · rw [if_pos e2]
      · rw [if_neg e2, List.getElem?_eq_none (by omega), List.getElem?_eq_none (by simp; omega)]

set_option maxRecDepth 100000 in
set_option maxHeartbeats 4000000 in
theorem encS_long (a b : Option Addr) (n t c d : Nat) (P T : Nat → Nat) (w : World) (hn : 55 < n) (hn2 : n ≤ 1048576) (ht : t ≤ 1048576) (hP : BR w w.heap.size a n P) (hT : BR w w.heap.size b t T) :
    Calls Tryf.prog 11 #[.slice a n c, .slice b t d] w fun e w' => ∃ m, e = .returned (.slice (some ⟨w.heap.size, 0, none⟩) m (n + 9 + t)) ∧ St w w' w.heap.size (n + 9 + t) m ((183 + (digs 8 n).length) :: (digs 8 n).reverse ++ lst P n ++ lst T t) := by
  obtain ⟨i0, hi, hz0, hz1, hz2⟩ := info_parts Tryf.info5
  obtain ⟨w1, hmk, hst⟩ := make_out (n + 9 + t) ((n : Int) + 9 + t) (by omega) (by omega) w
  have hq : ((n : Int) == 1) = false := by simp; omega
  go_enter Tryf.func11, Tryf.ntmps11
  go_wp2
  have hD := hst.lt
  obtain ⟨D, hDe⟩ : ∃ D, D = w1.heap.size := ⟨_, rfl⟩
  rw [← hDe]
  rw [← hDe] at hD
  have HD : Hid (D = w1.heap.size) := hDe
  clear hDe hmk
  go_loopw [8, 9] (fun kv mv wr => ∃ (j m : Nat) (ds : List Nat), j ≤ 8 ∧ kv = .int .i64 j ∧ mv = .int .i64 m ∧ m ≤ n ∧ ds.length = j ∧ digs 8 n = ds ++ digs (8 - j) m ∧ m < 256 ^ (8 - j) ∧ wr.rowIs D 47 8 (fun i => bv (ds.getD i 0)) ∧ St w wr w.heap.size (n + 9 + t) 0 []) (fun _ mv _ => (intOf mv).toNat)
  case atStart =>
    refine ⟨0, n, [], by omega, rfl, rfl, Nat.le_refl _, rfl, rfl, Nat.lt_of_le_of_lt hn2 (by decide), ?_, hst.allocO _⟩
    rw [HD.out]
    refine ⟨_, Deep.blk_alloc_new _ _, rfl, fun i hi => ?_⟩
    rcases (show i = 0 ∨ i = 1 ∨ i = 2 ∨ i = 3 ∨ i = 4 ∨ i = 5 ∨ i = 6 ∨ i = 7 from by omega) with h | h | h | h | h | h | h | h <;> subst h <;> rfl
  case round =>
    clear hst
    obtain ⟨j, m, ds, hj, rfl, rfl, hmn, hl, hds, hpw, hrow, hst⟩ := hrel
    have HL : Hid (ds.length = j) := hl
    have HDS : Hid (digs 8 n = ds ++ digs (8 - j) m) := hds
    have HPW : Hid (m < 256 ^ (8 - j)) := hpw
    clear hl hds hpw
    by_cases hgo : 0 < m ∧ j < 8
    · obtain ⟨hm0, hj8⟩ := hgo
      have r1 := hrow.cell (i := j) hj8
      have r2 := hrow.frozen j
      have hset : Hid ((wr.setCell ⟨D, j, none⟩ (.int .u8 ((m : Int) % 256))).rowIs D 47 8 (fun i => bv ((ds ++ [m % 256]).getD i 0))) := digit_row HL.out hrow
      have hst' : Hid (St w (wr.setCell ⟨D, j, none⟩ (.int .u8 ((m : Int) % 256))) w.heap.size (n + 9 + t) 0 []) := hst.setOther hD _
      have HDS' : Hid (digs 8 n = (ds ++ [m % 256]) ++ digs (8 - (j + 1)) (m / 256)) := by
        rw [HDS.out, show 8 - j = (8 - (j + 1)) + 1 from by omega, digs_step _ _ hm0, List.append_assoc]; rfl
      have HPW' : Hid (m / 256 < 256 ^ (8 - (j + 1))) := by
        have := HPW.out
        rw [show 8 - j = (8 - (j + 1)) + 1 from by omega, Nat.pow_succ] at this
        show _ < _
        exact Nat.div_lt_of_lt_mul (by rw [Nat.mul_comm]; exact this)
      clear hrow hst
      go_wp2
      go_roundw
      case rel => exact ⟨j + 1, m / 256, ds ++ [m % 256], by omega, by go_num, by go_num, by omega, by rw [List.length_append, HL.out]; rfl, HDS'.out, HPW'.out, hset.out, hst'.out⟩
      case measure => simp [intOf]; omega
    · have hm0 : m = 0 := by
        by_cases h8 : j < 8
        · omega
        · have := HPW.out
          rw [show 8 - j = 0 from by omega] at this
          simpa using this
      subst hm0
      have HDS2 : Hid (digs 8 n = ds) := by show _ = _; rw [HDS.out, digs_zero, List.append_nil]
      clear hgo HDS HPW
      have eb : (Value.int .u8 (183 + (j : Int))) = bv (183 + j) := by simp [bv]
      have HB : Hid _ := eb
      clear eb
      go_wp2_with (at_builtin; refine wpList_append_fits _ rfl (.tmp 59) (.tmp 63) 22 rfl w.heap.size 5 i0 1 Tryf.underlying22 hi hz1 w.heap.size 0 (n + 9 + t) (([] : List Nat).map bv) rfl (hst.own.alloc _) ⟨wr.heap.size, 0, none⟩ 1 1 [.int .u8 (183 + (j : Int))] rfl rfl (one_newV _ _) (by simp [Value.oneCell']) (by omega) ?_; intro w2 hown hgrow)
      rw [HB.out] at hown
      have st2 := hst.push hown hgrow
      have hrow2 := row_kept hrow (by omega) hgrow
      clear hown hgrow hst hrow
      go_loopw [6, 10] (fun v i wr => ∃ (m2 : Nat) (q : Int), -1 ≤ q ∧ q < j ∧ i = .int .i64 q ∧ v = .slice (some ⟨w.heap.size, 0, none⟩) m2 (n + 9 + t) ∧ St w wr w.heap.size (n + 9 + t) m2 ((183 + j) :: (ds.drop (q + 1).toNat).reverse) ∧ wr.rowIs D 47 8 (fun i => bv (ds.getD i 0))) (fun _ i _ => (intOf i + 1).toNat)
      case atStart => exact ⟨1, (j : Int) - 1, by omega, by omega, rfl, rfl, by rw [show ((j : Int) - 1 + 1).toNat = ds.length from by have := HL.out; omega, List.drop_length]; exact st2, hrow2⟩
      case round =>
        clear st2 hrow2
        obtain ⟨m2, q, hq1, hq2, rfl, rfl, st, hrow⟩ := hrel
        by_cases hqe : q = -1
        · subst hqe
          obtain ⟨hd, hhde⟩ : ∃ hd, hd = (183 + j) :: ds.reverse := ⟨_, rfl⟩
          have hhd : Hid (hd.length ≤ 9) := by show _ ≤ _; have := HL.out; rw [hhde]; simp; omega
          have hst3 : St w wr w.heap.size (n + 9 + t) m2 hd := by rw [hhde]; simpa using st
          have FE : Hid ((183 + (digs 8 n).length) :: (digs 8 n).reverse = hd) := by show _ = _; rw [HDS2.out, HL.out, hhde]
          clear st hrow hhde HDS2 HL
          go_wp2
          go_loopw [6, 11] (fun v i wr => ∃ j m : Nat, j ≤ n ∧ i = .int .i64 j ∧ v = .slice (some ⟨w.heap.size, 0, none⟩) m (n + 9 + t) ∧ St w wr w.heap.size (n + 9 + t) m (hd ++ lst P j)) (fun _ i _ => n - (intOf i).toNat)
          case atStart => exact ⟨0, m2, by omega, rfl, rfl, by simpa [lst] using hst3⟩
          case round =>
            obtain ⟨j, m, hj, rfl, rfl, st⟩ := hrel
            have hlm := st.length
            have hm : m ≤ 9 + j := by have := hhd.out; simp only [List.length_append, lst_length] at hlm this; omega
            clear hlm
            by_cases hlt : j < n
            · obtain ⟨xb, xo, hxe, hxR, hxc⟩ := (hP.below st.bel).at (by omega)
              cases hxe
              have c1 := hxc j hlt
              clear hxc
              go_wp2_with (at_builtin; refine wpList_append_fits _ rfl (.tmp 82) (.tmp 87) 22 rfl w.heap.size 5 i0 1 Tryf.underlying22 hi hz1 w.heap.size m (n + 9 + t) ((hd ++ lst P j).map bv) rfl (st.own.alloc _) ⟨wr.heap.size, 0, none⟩ 1 1 [bv (P j)] rfl rfl (one_new _ _) (by simp [bv, Value.oneCell']) (by omega) ?_; intro w3 hown hgrow)
              have st3 := st.push hown hgrow
              have ST : Hid (St w w3 w.heap.size (n + 9 + t) (m + 1) (hd ++ lst P (j + 1))) := by rw [lst_succ, ← List.append_assoc]; exact st3
              clear hown hgrow c1 st st3
              go_wp2
              go_roundw
              case rel => exact ⟨j + 1, m + 1, by omega, by go_num, rfl, ST.out⟩
              case measure => simp [intOf]; omega
            · obtain rfl : n = j := by omega
              have hhd2 : Hid ((hd ++ lst P n).length ≤ 9 + n) := by have := hhd.out; show _ ≤ _; simp only [List.length_append, lst_length]; omega
              clear hhd hm hlt hj
              go_wp2
              go_loopw [6, 12] (fun v i wr => ∃ j m : Nat, j ≤ t ∧ i = .int .i64 j ∧ v = .slice (some ⟨w.heap.size, 0, none⟩) m (n + 9 + t) ∧ St w wr w.heap.size (n + 9 + t) m ((hd ++ lst P n) ++ lst T j)) (fun _ i _ => t - (intOf i).toNat)
              case atStart => exact ⟨0, m, by omega, rfl, rfl, by simpa [lst] using st⟩
              case round =>
                obtain ⟨j, m, hj, rfl, rfl, st⟩ := hrel
                have hlm := st.length
                have hm : m ≤ 9 + n + j := by have := hhd2.out; simp only [List.length_append, lst_length] at hlm this; omega
                clear hlm
                by_cases hlt : j < t
                · obtain ⟨xb, xo, hxe, hxR, hxc⟩ := (hT.below st.bel).at (by omega)
                  cases hxe
                  have c1 := hxc j hlt
                  clear hxc
                  go_wp2_with (at_builtin; refine wpList_append_fits _ rfl (.tmp 95) (.tmp 100) 22 rfl w.heap.size 5 i0 1 Tryf.underlying22 hi hz1 w.heap.size m (n + 9 + t) (((hd ++ lst P n) ++ lst T j).map bv) rfl (st.own.alloc _) ⟨wr.heap.size, 0, none⟩ 1 1 [bv (T j)] rfl rfl (one_new _ _) (by simp [bv, Value.oneCell']) (by omega) ?_; intro w3 hown hgrow)
                  have st3 := st.push hown hgrow
                  have ST : Hid (St w w3 w.heap.size (n + 9 + t) (m + 1) ((hd ++ lst P n) ++ lst T (j + 1))) := by rw [lst_succ, ← List.append_assoc]; exact st3
                  clear hown hgrow c1 st st3
                  go_wp2
                  go_roundw
                  case rel => exact ⟨j + 1, m + 1, by omega, by go_num, rfl, ST.out⟩
                  case measure => simp [intOf]; omega
                · obtain rfl : t = j := by omega
                  go_wp2
                  go_ret
                  exact ⟨m, rfl, by simp only [← List.cons_append, FE.out]; simpa using st⟩

        · obtain ⟨p, rfl⟩ : ∃ p : Nat, q = p := ⟨q.toNat, by omega⟩
          have hlm := st.length
          have hm2 : m2 + p + 1 ≤ 1 + j + 1 := by have := HL.out; simp at hlm; omega
          have r1 := hrow.cell (i := p) (by omega)
          have hdr : Hid (ds.drop ((p : Int)).toNat = ds.getD p 0 :: ds.drop ((p : Int) + 1).toNat) := by
            have hlen := HL.out
            show _ = _
            rw [show ((p : Int)).toNat = p from by omega, show ((p : Int) + 1).toNat = p + 1 from by omega, List.drop_eq_getElem_cons (by omega)]
            simp [List.getD_eq_getElem?_getD, List.getElem?_eq_getElem (show p < ds.length by omega)]
          obtain ⟨z, hz⟩ : ∃ z, z = ds.getD p 0 := ⟨_, rfl⟩
          rw [← hz] at r1 hdr
          clear hlm hqe hz
          unfold bv at r1
          go_wp2_with (at_builtin; refine wpList_append_fits _ rfl (.tmp 71) (.tmp 75) 22 rfl w.heap.size 5 i0 1 Tryf.underlying22 hi hz1 w.heap.size m2 (n + 9 + t) (((183 + j) :: (ds.drop ((p : Int) + 1).toNat).reverse).map bv) rfl (st.own.alloc _) ⟨wr.heap.size, 0, none⟩ 1 1 [.int .u8 (z : Nat)] rfl rfl (one_newV _ _) (by simp [Value.oneCell']) (by omega) ?_; intro w3 hown hgrow)
          have st3 := st.push hown hgrow
          have hrow3 := row_kept hrow (by omega) hgrow
          have ST : Hid (St w w3 w.heap.size (n + 9 + t) (m2 + 1) ((183 + j) :: (ds.drop ((p : Int) - 1 + 1).toNat).reverse)) := by
            rw [show ((p : Int) - 1 + 1).toNat = (p : Int).toNat from by omega, hdr.out, List.reverse_cons]; exact st3
          clear hown hgrow st st3 hrow r1 hdr
          go_wp2
          go_roundw
          case rel => exact ⟨m2 + 1, (p : Int) - 1, by omega, by omega, rfl, rfl, ST.out, hrow3⟩
          case measure => simp [intOf]

/-- The bytes that stand for a payload. -/
def encS (P : Nat → Nat) (n : Nat) : List Nat :=
  if n = 1 ∧ P 0 < 128 then lst P n else if n ≤ 55 then (128 + n) :: lst P n else (183 + (digs 8 n).length) :: (digs 8 n).reverse ++ lst P n
theorem encS_any (a b : Option Addr) (n t c d : Nat) (P T : Nat → Nat) (w : World) (hn : n ≤ 1048576) (ht : t ≤ 1048576) (hP : BR w w.heap.size a n P) (hT : BR w w.heap.size b t T) :
    Calls Tryf.prog 11 #[.slice a n c, .slice b t d] w fun e w' => ∃ m, e = .returned (.slice (some ⟨w.heap.size, 0, none⟩) m (n + 9 + t)) ∧ St w w' w.heap.size (n + 9 + t) m (encS P n ++ lst T t) := by
  unfold encS
  by_cases h1 : n = 1 ∧ P 0 < 128
  · rw [if_pos h1]
    exact encS_one a b n t c d P T w hn ht hP hT h1.1 h1.2
  · rw [if_neg h1]
    by_cases h2 : n ≤ 55
    · rw [if_pos h2]
      exact encS_short a b n t c d P T w h2 ht hP hT h1
    · rw [if_neg h2]
      exact encS_long a b n t c d P T w (by omega) hn ht hP hT
end Go.Proofs.Qxb6604339aFmt
