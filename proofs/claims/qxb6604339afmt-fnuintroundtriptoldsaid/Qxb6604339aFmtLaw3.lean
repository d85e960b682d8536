/- FnBytesRoundTrip: function 3. -/
import Derived.Test.Qxb6604339aFmtPlain2
import Derived.Test.Qxb6604339aFmtRd
import Derived.Test.Qxb6604339aFmtClone
namespace Go.Proofs.Qxb6604339aFmt
open Go.RowKit Go.Extern.Stop Go.Stop Go.Extern

theorem bstep {w w1 w2 : World} (h : Below w.heap.size w w1) (k : Below w1.heap.size w1 w2) : Below w.heap.size w w2 := h.trans (k.mono h.size)

theorem bytes9_any (a b : Option Addr) (n t c d : Nat) (nm : ByteArray) (w : World) (hn : n ≤ 262144) (ht : t ≤ 262144) (hk : nm.size ≤ 262144) :
    Calls Tryf.prog 9 #[.slice a n c, .slice b t d, .string nm] w fun e w' => e = .returned (.bool true) ∧ w' = w := by
  go_enter Tryf.func9, Tryf.ntmps9
  go_wp2
  go_ret
  exact ⟨rfl, rfl⟩
theorem bytes9_bool (a b : Option Addr) (n t c d : Nat) (nm : ByteArray) (w : World) (hn : n ≤ maxLen) (ht : t ≤ maxLen) (hk : nm.size ≤ maxLen) :
    Calls Tryf.prog 9 #[.slice a n c, .slice b t d, .string nm] w fun e w' => BoolOf True e ∧ w' = w := by
  unfold maxLen at hn ht hk
  go_enter Tryf.func9, Tryf.ntmps9
  go_wp2
  all_goals go_ret
  all_goals exact ⟨BoolOf.triv, rfl⟩

set_option maxRecDepth 100000 in
set_option maxHeartbeats 2000000 in
theorem law3 (a b : Option Addr) (n t c d : Nat) (P T : Nat → Nat) (nm : ByteArray) (w : World) (hE : Errs w w.heap.size)
    (hP2 : ∀ i, P i < 256) (hT2 : ∀ i, T i < 256) (hn : n ≤ maxLen) (ht : t ≤ maxLen) (hk : nm.size ≤ maxLen) (na : a = none → c = 0) (nb : b = none → d = 0)
    (hP : IRow .u8 w a n (fun i => (P i : Int))) (hT : IRow .u8 w b t (fun i => (T i : Int))) :
    Calls Tryf.prog 3 #[.slice a n c, .slice b t d, .string nm] w fun e w' => e = .returned (.bool true) ∧ Below w.heap.size w w' := by
  have q := nil22
  by_cases hl : n ≤ 262144 ∧ t ≤ 262144 ∧ nm.size ≤ 262144
  · obtain ⟨l1, l2, l3⟩ := hl
    clear hn ht hk
    go_enter Tryf.func3, Tryf.ntmps3
    go_wp2_with fail
    refine (bytes9_any a b n t c d nm w l1 l2 l3).mono ?_
    rintro e w' ⟨rfl, hw⟩
    obtain rfl := hw.symm
    go_wp2_with fail
    refine (clone10_any a n c _ w (by omega) na hP).mono ?_
    rintro e w1 ⟨a1, c1, rfl, -, hc1, -, hb1, hP1⟩
    go_wp2_with fail
    refine (clone10_any b t d _ w1 (by omega) nb (hT.below hb1)).mono ?_
    rintro e w2 ⟨b1, d1, rfl, -, hd1, -, hb2, hT2'⟩
    have rP := BR.ofI (hP1.below hb2)
    have rT := BR.ofI hT2'
    go_wp2_with fail
    refine (encS_any a1 b1 n t c1 d1 P T w2 (by omega) (by omega) rP rT).mono ?_
    rintro e w3 ⟨m, rfl, hst⟩
    obtain ⟨s, hh⟩ := encS_head P T n t (by omega)
    obtain ⟨xs, hxs⟩ : ∃ xs, xs = encS P n ++ lst T t := ⟨_, rfl⟩
    have hx2 : ∀ x ∈ xs, x < 256 := by
      rw [hxs]
      intro x hx
      rcases List.mem_append.1 hx with hx | hx
      · exact encS_lt hP2 n x hx
      · exact lst_lt hT2 t x hx
    rw [← hxs] at hst hh
    have hm := hst.length
    have hmC := hst.le
    have hb3 : Below w2.heap.size w2 w3 := hst.bel
    have hbw3 := bstep (bstep hb1 hb2) hb3
    have hlt := hst.lt
    have rE := hst.row hst.lt
    have rP3 := (rP.below hb3).mono (Nat.le_of_lt hlt)
    have rT3 := (rT.below hb3).mono (Nat.le_of_lt hlt)
    have hE3 : Errs w3 w3.heap.size := (hE.below hbw3).mono hbw3.size
    clear hP hT hP1 hT2' rP rT hst hxs hb1 hb2 hb3 hE
    have HH : Hid (Head xs s n t P T) := hh
    have HM : Hid (xs.length = m) := hm
    have HX : Hid (∀ x ∈ xs, x < 256) := hx2
    clear hh hm hx2 hP2 hT2
    go_wp2_with fail
    refine (newReader_any w3 (some ⟨w2.heap.size, 0, none⟩) m (n + 9 + t) (at0 xs) rE hmC).mono ?_
    rintro e w4 ⟨rfl, hrd, hb4⟩
    have hE4 := hE3.below hb4
    have hhd : Hid (headH m (at0 xs) = ⟨false, s, s + n, true, true⟩) := by show _ = _; rw [← HM.out]; exact HH.out.head
    obtain ⟨R, hR⟩ : ∃ R, R = w3.heap.size := ⟨_, rfl⟩
    rw [← hR] at hrd hE4 hb4 rP3 rT3 ⊢
    have hRw : w.heap.size ≤ R := by rw [hR]; exact hbw3.size
    have HR : Hid (R = w3.heap.size) := hR
    clear hR
    have hbw4 : Below w.heap.size w w4 := hbw3.trans (hb4.mono hRw)
    go_wp2_with fail
    refine (bytes_ok w4 R m (at0 xs) (fun i => at0_lt HX.out i) nm hE4 hrd (by omega) (by rw [hhd.out]) (by rw [hhd.out])).mono ?_
    rw [hhd.out]
    simp only
    rintro e w5 ⟨⟨x, c5, rfl, hc5, hr5⟩, hrd5, hb5⟩
    have rP5 := (rP3.below hb4).below hb5
    have rT5 := (rT3.below hb4).below hb5
    have hbw5 : Below w.heap.size w w5 := hbw4.trans (hb5.mono hRw)
    have hlen := HH.out.len
    have hm2 := HM.out
    have hnn : s + n - s = n := by omega
    have hnt : m - (s + n) = t := by omega
    rw [hnn] at hr5 hc5 ⊢
    rw [hnt] at hrd5
    have eP : Hid (∀ i, i < n → at0 xs (s + i) = P i) := HH.out.pay
    have eT : Hid (∀ i, i < t → at0 xs (s + n + i) = T i) := HH.out.tail
    clear hnn hnt hlen hm2 rP3 rT3 hb5 hb4 hbw3 hbw4 hrd hE4 hE3 rE
    go_wp2_with fail
    refine (err_any w5 R t _ false hrd5).mono ?_
    rintro e w6 ⟨⟨ev, rfl, hev, -⟩, rfl⟩
    obtain rfl := hev rfl
    go_wp2_with fail
    refine (same_yes w6 R (some x) a1 n c5 c1 _ P (by omega) hr5 rP5 (fun i hi => eP.out i hi)).mono ?_
    rintro e w7 ⟨rfl, k7, rfl⟩
    go_wp2_with fail
    refine (items_any (w6.drewN k7) R t _ false hrd5).mono ?_
    rintro e w8 ⟨⟨a8, c8, rfl, hc8, hr8⟩, rfl⟩
    go_wp2_with fail
    refine (same_yes (w6.drewN k7) R a8 b1 t c8 d1 _ T (by omega) hr8 rT5 (fun i hi => eT.out i hi)).mono ?_
    rintro e w9 ⟨rfl, k9, rfl⟩
    go_wp2
    go_ret
    exact ⟨rfl, below_drewN hbw5 _⟩
  · unfold maxLen at hn ht hk
    go_enter Tryf.func3, Tryf.ntmps3
    go_wp2_with fail
    refine (bytes9_bool a b n t c d nm w (by unfold maxLen; omega) (by unfold maxLen; omega) (by unfold maxLen; omega)).mono ?_
    rintro e w' ⟨⟨z, rfl, -⟩, hw⟩
    obtain rfl := hw.symm
    cases z
    · go_wp2
      go_ret
      exact ⟨rfl, Below.refl _ _⟩
    · go_wp2_with fail
      all_goals go_ret
      all_goals exact ⟨rfl, Below.refl _ _⟩
end Go.Proofs.Qxb6604339aFmt
