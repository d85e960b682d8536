/- FnUintRoundTrip: function 4. -/
import Derived.Test.Qxb6604339aFmtEncU
import Derived.Test.Qxb6604339aFmtUint
import Derived.Test.Qxb6604339aFmtLaw3
namespace Go.Proofs.Qxb6604339aFmt
open Go.RowKit Go.Extern.Stop Go.Stop Go.Extern

theorem encU_lt {u : Nat} : ∀ x ∈ encU u, x < 256 := by
  intro x hx
  unfold encU at hx
  split at hx
  · simp at hx; omega
  · split at hx
    · simp at hx; omega
    · rcases List.mem_cons.1 hx with rfl | hx
      · have := digs_length 8 u; omega
      · exact digs_lt 8 u x (List.mem_reverse.1 hx)

/-- The head of an encoded number. -/
structure HeadU (xs : List Nat) (s k t u : Nat) (T : Nat → Nat) : Prop where
  head : headH xs.length (at0 xs) = ⟨false, s, s + k, true, true⟩
  len : xs.length = s + k + t
  k8 : k ≤ 8
  lead : ¬ (0 < k ∧ at0 xs s = 0)
  num : num (at0 xs) s k = u
  tail : ∀ i, i < t → at0 xs (s + k + i) = T i

theorem head_tail (hd : List Nat) (t : Nat) (T : Nat → Nat) : (hd ++ lst T t).length = hd.length + t ∧ (∀ i, i < t → at0 (hd ++ lst T t) (hd.length + i) = T i) ∧ ∀ i, i < hd.length → at0 (hd ++ lst T t) i = at0 hd i :=
  ⟨by simp [lst_length], fun i hi => by rw [at0_append, at0_lst _ _ _ hi], fun i hi => at0_left _ _ _ hi⟩

theorem encU_head (T : Nat → Nat) (u t : Nat) (hu : u < 18446744073709551616) : ∃ s k, HeadU (encU u ++ lst T t) s k t u T := by
  unfold encU
  by_cases h1 : u = 0
  · rw [if_pos h1]
    obtain ⟨p1, p2, p3⟩ := head_tail [128] t T
    refine ⟨1, 0, ⟨?_, by simpa using p1, by omega, by omega, ?_, by simpa using p2⟩⟩
    · have h0 : at0 ([128] ++ lst T t) 0 = 128 := rfl
      unfold headH
      rw [if_neg (by rw [p1]; simp), h0, if_neg (by omega), if_pos (by omega)]
      unfold shortH
      rw [if_neg (by rw [p1]; simp), if_neg (by omega)]
    · rw [h1]; rfl
  · rw [if_neg h1]
    by_cases h2 : u < 128
    · rw [if_pos h2]
      obtain ⟨p1, p2, p3⟩ := head_tail [u] t T
      have h0 : at0 ([u] ++ lst T t) 0 = u := rfl
      refine ⟨0, 1, ⟨?_, by simpa using p1, by omega, by rw [h0]; omega, ?_, by simpa using p2⟩⟩
      · unfold headH
        rw [if_neg (by rw [p1]; simp), h0, if_pos h2]
      · show 0 * 256 + at0 ([u] ++ lst T t) (0 + 0) = u
        rw [Nat.zero_mul, Nat.zero_add, Nat.zero_add, h0]
    · rw [if_neg h2]
      have hlt : u < 256 ^ 8 := by rw [show (256 : Nat) ^ 8 = 18446744073709551616 from by decide]; exact hu
      obtain ⟨k1, k2⟩ := digs_top 8 u (by omega) hlt
      have k3 := digs_length 8 u
      obtain ⟨ds, hds⟩ : ∃ ds, ds = digs 8 u := ⟨_, rfl⟩
      have hof : ofD ds = u := by rw [hds]; exact ofD_digs 8 u hlt
      rw [← hds] at k1 k2 k3 ⊢
      obtain ⟨p1, p2, p3⟩ := head_tail ((128 + ds.length) :: ds.reverse) t T
      simp only [List.length_cons, List.length_reverse] at p1 p2 p3
      have h0 : at0 ((128 + ds.length) :: ds.reverse ++ lst T t) 0 = 128 + ds.length := rfl
      have hb : ∀ i, i < ds.length → at0 ((128 + ds.length) :: ds.reverse ++ lst T t) (1 + i) = ds.reverse.getD i 0 := fun i hi => by
        rw [p3 (1 + i) (by omega), show 1 + i = i + 1 from by omega]
        rfl
      have hnum := num_rev ds _ 1 hb
      rw [hof] at hnum
      have hb0 := hb 0 k1
      simp only [Nat.add_zero] at hb0
      refine ⟨1, ds.length, ⟨?_, by rw [p1]; omega, k3, fun h => k2 (by rw [← hb0]; exact h.2), hnum, fun i hi => by rw [show 1 + ds.length + i = ds.length + 1 + i from by omega]; exact p2 i hi⟩⟩
      unfold headH
      rw [if_neg (by rw [p1]; omega), h0, if_neg (by omega), if_pos (by omega), show 128 + ds.length - 128 = ds.length from by omega]
      unfold shortH
      rw [if_neg (by rw [p1]; omega), if_neg]
      rintro ⟨_, e1, e2⟩
      have e3 : num (at0 ((128 + ds.length) :: ds.reverse ++ lst T t)) 1 1 = u := by rw [← hnum, e1]
      have e4 : num (at0 ((128 + ds.length) :: ds.reverse ++ lst T t)) 1 1 = at0 ((128 + ds.length) :: ds.reverse ++ lst T t) 1 := by
        show 0 * 256 + _ = _
        rw [Nat.zero_mul, Nat.zero_add]
      omega

theorem bytes17_any (u : Int) (b : Option Addr) (t d : Nat) (nm : ByteArray) (w : World) (ht : t ≤ 524288) (hk : nm.size ≤ 524288) :
    Calls Tryf.prog 17 #[.int .u64 u, .slice b t d, .string nm] w fun e w' => e = .returned (.bool true) ∧ w' = w := by
  go_enter Tryf.func17, Tryf.ntmps17
  go_wp2
  go_ret
  exact ⟨rfl, rfl⟩
theorem bytes17_bool (u : Int) (b : Option Addr) (t d : Nat) (nm : ByteArray) (w : World) (ht : t ≤ maxLen) (hk : nm.size ≤ maxLen) :
    Calls Tryf.prog 17 #[.int .u64 u, .slice b t d, .string nm] w fun e w' => BoolOf True e ∧ w' = w := by
  unfold maxLen at ht hk
  go_enter Tryf.func17, Tryf.ntmps17
  go_wp2
  all_goals go_ret
  all_goals exact ⟨BoolOf.triv, rfl⟩

set_option maxRecDepth 100000 in
set_option maxHeartbeats 2000000 in
theorem law4 (u : Nat) (b : Option Addr) (t d : Nat) (T : Nat → Nat) (nm : ByteArray) (w : World) (hE : Errs w w.heap.size)
    (hu : u < 18446744073709551616) (hT2 : ∀ i, T i < 256) (ht : t ≤ maxLen) (hk : nm.size ≤ maxLen) (nb : b = none → d = 0) (hT : IRow .u8 w b t (fun i => (T i : Int))) :
    Calls Tryf.prog 4 #[.int .u64 (u : Nat), .slice b t d, .string nm] w fun e w' => e = .returned (.bool true) ∧ Below w.heap.size w w' := by
  by_cases hl : t ≤ 524288 ∧ nm.size ≤ 524288
  · obtain ⟨l2, l3⟩ := hl
    clear ht hk
    have HU : Hid (u < 18446744073709551616) := hu
    clear hu
    go_enter Tryf.func4, Tryf.ntmps4
    go_wp2_with fail
    refine (bytes17_any u b t d nm w l2 l3).mono ?_
    rintro e w' ⟨rfl, hw⟩
    obtain rfl := hw.symm
    go_wp2_with fail
    refine (clone10_any b t d _ w (by omega) nb hT).mono ?_
    rintro e w2 ⟨b1, d1, rfl, -, hd1, -, hb2, hT2'⟩
    have rT := BR.ofI hT2'
    go_wp2_with fail
    refine (encU_any b1 u t d1 T w2 HU.out (by omega) rT).mono ?_
    rintro e w3 ⟨m, rfl, hst⟩
    obtain ⟨s, k, hh⟩ := encU_head T u t HU.out
    obtain ⟨xs, hxs⟩ : ∃ xs, xs = encU u ++ lst T t := ⟨_, rfl⟩
    have hx2 : ∀ x ∈ xs, x < 256 := by
      rw [hxs]
      intro x hx
      rcases List.mem_append.1 hx with hx | hx
      · exact encU_lt x hx
      · exact lst_lt hT2 t x hx
    rw [← hxs] at hst hh
    have hm := hst.length
    have hmC := hst.le
    have hb3 : Below w2.heap.size w2 w3 := hst.bel
    have hbw3 := bstep hb2 hb3
    have hlt := hst.lt
    have rE := hst.row hst.lt
    have rT3 := (rT.below hb3).mono (Nat.le_of_lt hlt)
    have hE3 : Errs w3 w3.heap.size := (hE.below hbw3).mono hbw3.size
    clear hT hT2' rT hst hxs hb2 hb3 hE
    have HH : Hid (HeadU xs s k t u T) := hh
    have HM : Hid (xs.length = m) := hm
    have HX : Hid (∀ x ∈ xs, x < 256) := hx2
    clear hh hm hx2 hT2
    go_wp2_with fail
    refine (newReader_any w3 (some ⟨w2.heap.size, 0, none⟩) m (9 + t) (at0 xs) rE hmC).mono ?_
    rintro e w4 ⟨rfl, hrd, hb4⟩
    have hE4 := hE3.below hb4
    have hhd : Hid (headH m (at0 xs) = ⟨false, s, s + k, true, true⟩) := by show _ = _; rw [← HM.out]; exact HH.out.head
    obtain ⟨R, hR⟩ : ∃ R, R = w3.heap.size := ⟨_, rfl⟩
    rw [← hR] at hrd hE4 hb4 rT3 ⊢
    have hRw : w.heap.size ≤ R := by rw [hR]; exact hbw3.size
    have HR : Hid (R = w3.heap.size) := hR
    clear hR
    have hbw4 : Below w.heap.size w w4 := hbw3.trans (hb4.mono hRw)
    have huok : Hid (UOk (headH m (at0 xs)) (at0 xs)) := by
      show UOk _ _
      rw [hhd.out]
      exact ⟨rfl, rfl, by have := HH.out.k8; simp only; omega, fun h => HH.out.lead ⟨by have := h.1; simp only at this; omega, h.2⟩⟩
    go_wp2_with fail
    refine (uint_ok w4 R m (at0 xs) (fun i => at0_lt HX.out i) nm hE4 hrd (by omega) huok.out).mono ?_
    rw [hhd.out]
    simp only
    rintro e w5 ⟨rfl, hrd5, hb5⟩
    have rT5 := (rT3.below hb4).below hb5
    have hbw5 : Below w.heap.size w w5 := hbw4.trans (hb5.mono hRw)
    have hlen := HH.out.len
    have hm2 := HM.out
    have hnt : m - (s + k) = t := by omega
    rw [hnt] at hrd5
    have eN : num (at0 xs) s (s + k - s) = u := by rw [show s + k - s = k from by omega]; exact HH.out.num
    rw [eN]
    have eT : Hid (∀ i, i < t → at0 xs (s + k + i) = T i) := HH.out.tail
    clear hnt hlen hm2 rT3 hb5 hb4 hbw3 hbw4 hrd hE4 hE3 rE eN
    go_wp2_with fail
    refine (err_any w5 R t _ false hrd5).mono ?_
    rintro e w6 ⟨⟨ev, rfl, hev, -⟩, rfl⟩
    obtain rfl := hev rfl
    go_wp2_with fail
    refine (items_any w6 R t _ false hrd5).mono ?_
    rintro e w8 ⟨⟨a8, c8, rfl, hc8, hr8⟩, rfl⟩
    go_wp2_with fail
    refine (same_yes w8 R a8 b1 t c8 d1 _ T (by omega) hr8 rT5 (fun i hi => eT.out i hi)).mono ?_
    rintro e w9 ⟨rfl, k9, rfl⟩
    go_wp2
    go_ret
    exact ⟨rfl, below_drewN hbw5 _⟩
  · unfold maxLen at ht hk
    go_enter Tryf.func4, Tryf.ntmps4
    go_wp2_with fail
    refine (bytes17_bool u b t d nm w (by unfold maxLen; omega) (by unfold maxLen; omega)).mono ?_
    rintro e w' ⟨⟨z, rfl, -⟩, hw⟩
    obtain rfl := hw.symm
    cases z
    · go_wp2
      go_ret
      exact ⟨rfl, Below.refl _ _⟩
    · go_wp2_with fail
      all_goals go_ret
      all_goals exact ⟨rfl, Below.refl _ _⟩
theorem law4n (u : Int) (b : Option Addr) (t d : Nat) (T : Nat → Nat) (nm : ByteArray) (w : World) (hE : Errs w w.heap.size)
    (hu : 0 ≤ u ∧ u < 18446744073709551616) (hT2 : ∀ i, T i < 256) (ht : t ≤ maxLen) (hk : nm.size ≤ maxLen) (nb : b = none → d = 0) (hT : IRow .u8 w b t (fun i => (T i : Int))) :
    Calls Tryf.prog 4 #[.int .u64 u, .slice b t d, .string nm] w fun e w' => e = .returned (.bool true) ∧ Below w.heap.size w w' := by
  obtain ⟨n, rfl⟩ : ∃ n : Nat, u = n := ⟨u.toNat, by omega⟩
  exact law4 n b t d T nm w hE (by omega) hT2 ht hk nb hT
theorem bd64 {n : Int} (h : (Lit.int .u64 n).wf = true) : 0 ≤ n ∧ n < 18446744073709551616 := by
  simp [Lit.wf, IntKind.min, IntKind.max, IntKind.signed, IntKind.bits] at h
  omega
end Go.Proofs.Qxb6604339aFmt
