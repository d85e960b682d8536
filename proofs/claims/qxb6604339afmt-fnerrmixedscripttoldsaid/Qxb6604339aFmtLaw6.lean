/- FnErrMixedScript: function 6. -/
import Derived.Test.Qxb6604339aFmtLaw5
import Derived.Test.Qxb6604339aFmtUintOf
namespace Go.Proofs.Qxb6604339aFmt
open Go.RowKit Go.Extern.Stop Go.Stop Go.Extern

theorem bytes22_any (a : Option Addr) (n c m : Nat) (nm : ByteArray) (w : World) (hn : n ≤ 524288) (hk : nm.size ≤ 524288) :
    Calls Tryf.prog 22 #[.slice a n c, .int .u64 (m : Nat), .string nm] w fun e w' => e = .returned (.bool true) ∧ w' = w := by
  go_enter Tryf.func22, Tryf.ntmps22
  go_wp2
  go_ret
  exact ⟨rfl, rfl⟩
theorem bytes22_bool (a : Option Addr) (n c m : Nat) (nm : ByteArray) (w : World) (hn : n ≤ maxLen) (hk : nm.size ≤ maxLen) :
    Calls Tryf.prog 22 #[.slice a n c, .int .u64 (m : Nat), .string nm] w fun e w' => BoolOf True e ∧ w' = w := by
  unfold maxLen at hn hk
  go_enter Tryf.func22, Tryf.ntmps22
  go_wp2
  all_goals go_ret
  all_goals exact ⟨BoolOf.triv, rfl⟩

set_option maxRecDepth 100000 in
set_option maxHeartbeats 4000000 in
theorem law6 (F : Interp) (a : Option Addr) (n c m : Nat) (L : Nat → Nat) (nm : ByteArray) (w : World) (hF : F.answers w.tape) (hE : Errs w w.heap.size) (hU : ErrU w w.heap.size)
    (hL : ∀ i, L i < 256) (hn : n ≤ maxLen) (hk : nm.size ≤ maxLen) (na : a = none → c = 0) (hI : IRow .u8 w a n (fun i => (L i : Int))) :
    Calls Tryf.prog 6 #[.slice a n c, .int .u64 (m : Nat), .string nm] w fun e w' => e = .returned (.bool true) ∧ Below w.heap.size w w' := by
  have q := nil22
  have q2 := neq22
  by_cases hl : n ≤ 524288 ∧ nm.size ≤ 524288
  · obtain ⟨l1, l3⟩ := hl
    clear hn hk
    go_enter Tryf.func6, Tryf.ntmps6
    go_wp2_with fail
    refine (bytes22_any a n c m nm w l1 l3).mono ?_
    rintro e w' ⟨rfl, hw⟩
    obtain rfl := hw.symm
    go_wp2_with fail
    refine (clone10_any a n c _ w (by omega) na hI).mono ?_
    rintro e w3 ⟨a1, c1, rfl, -, hc1, hc1', hbw3, hI1⟩
    obtain rfl : n = c1 := by omega
    have rI := BR.ofI hI1
    have hE3 : Errs w3 w3.heap.size := (hE.below hbw3).mono hbw3.size
    have hU3 : ErrU w3 w3.heap.size := (hU.below hbw3).mono hbw3.size
    clear hI hI1 hE hU hc1 hc1'
    go_wp2_with fail
    refine (newReader_any w3 a1 n n L rI (Nat.le_refl _)).mono ?_
    rintro e w4 ⟨rfl, hrd, hb4⟩
    have hE4 := hE3.below hb4
    have hU4 := hU3.below hb4
    have rI4 := rI.below hb4
    obtain ⟨R, hR⟩ : ∃ R, R = w3.heap.size := ⟨_, rfl⟩
    rw [← hR] at hrd hE4 hU4 hb4 rI4 ⊢
    have hRw : w.heap.size ≤ R := by rw [hR]; exact hbw3.size
    have HR : Hid (R = w3.heap.size) := hR
    have hbw4 : Below w.heap.size w w4 := hbw3.trans (hb4.mono hRw)
    have hF4 : F.answers w4.tape := by rw [hbw4.tape]; exact hF
    have HL : Hid (∀ i, L i < 256) := hL
    clear hR rI hE3 hU3 hbw3 hb4 hF hL
    cases a1 with
    | none =>
      obtain rfl := rI4.1 rfl
      go_wp2
      go_loopw [8, 9, 10] (fun pv fv iv wr => ∃ (i : Nat) (f : Bool), i ≤ 64 ∧ pv = .int .i64 0 ∧ fv = .bool f ∧ iv = .int .i64 i ∧ Rd wr R 0 L f ∧ Below R w4 wr) (fun _ _ iv _ => 64 - (intOf iv).toNat)
      case atStart => exact ⟨0, false, by omega, rfl, rfl, rfl, hrd, Below.refl _ _⟩
      case round =>
        clear hrd
        obtain ⟨i, f, hi, rfl, rfl, rfl, hrd0, hbr⟩ := hrel
        have hbwr : Below w.heap.size w wr := hbw4.trans (hbr.mono hRw)
        have rI5 := rI4.below hbr
        have hE5 := hE4.below hbr
        have hU5 := hU4.below hbr
        have hF5 : F.answers wr.tape := by rw [hbr.tape]; exact hF4
        by_cases hlt : i < 64
        · have hr0 : BR wr R none 0 L := rI5
          have hh0 : headH 0 L = ⟨false, 0, 0, false, false⟩ := rfl
          clear rI5
          have HH : Hid (headH 0 L = ⟨false, 0, 0, false, false⟩) := hh0
          clear hh0
          have HU : Hid (¬ UOk ⟨false, 0, 0, false, false⟩ L) := fun h => by have := h.1; simp at this
          go_wp2_with fail
          refine (zzHead_any none 0 0 L HL.out wr R hr0 (by omega)).mono ?_
          rintro e w' ⟨rfl, hw⟩
          obtain rfl := hw.symm
          rw [HH.out]
          unfold hdV
          simp only
          cases f
          · go_wp2_with fail
            · refine (uint_no F wr R 0 L HL.out nm hF5 hE5 hU5 hrd0 (by omega) (by rw [HH.out]; exact HU.out)).mono ?_
              rintro e5 w5 ⟨rfl, hrd5, hb5⟩
              have hry5 := hr0.below hb5
              have hb6 : Below R w4 w5 := hbr.trans hb5
              clear hrd0 HH hE5 hU5 hF5 hb5 hbr hbwr hr0
              go_wp2_with fail
              refine (uintOf_no none 0 0 0 0 false false false L w5 R hry5 (by omega) (by omega) (by omega) HU.out).mono ?_
              rintro e7 w7 ⟨rfl, hw⟩
              obtain rfl := hw.symm
              clear hry5 HU
              go_wp2_with fail
              refine (err_yes w5 R 0 _ hrd5).mono ?_
              rintro e9 w9 ⟨⟨x9, rfl⟩, hw⟩
              obtain rfl := hw.symm
              go_wp2
              go_roundw
              case rel => exact ⟨i + 1, true, by omega, rfl, rfl, by go_num, hrd5, hb6⟩
              case measure => simp [intOf]; omega
            · refine (bytes_no F wr R 0 L HL.out nm hF5 hE5 hrd0 (by omega) (by rw [HH.out]; simp)).mono ?_
              rw [HH.out]
              simp only
              rintro e5 w5 ⟨⟨a5, m5, c5, rfl, hs5, hn5⟩, hrd5, hb5⟩
              have hb6 : Below R w4 w5 := hbr.trans hb5
              obtain ⟨rfl, rfl, rfl⟩ := hn5 trivial
              clear hrd0 HH hE5 hU5 hF5 hb5 hbr hbwr hs5 hn5 hr0 HU
              go_wp2_with fail
              refine (err_yes w5 R 0 _ hrd5).mono ?_
              rintro e9 w9 ⟨⟨x9, rfl⟩, hw⟩
              obtain rfl := hw.symm
              go_wp2
              go_roundw
              case rel => exact ⟨i + 1, true, by omega, rfl, rfl, by go_num, hrd5, hb6⟩
              case measure => simp [intOf]; omega
          · go_wp2_with fail
            · refine (uint_failed wr R 0 _ nm hrd0).mono ?_
              rintro e5 w5 ⟨rfl, hw⟩
              obtain rfl := hw.symm
              go_wp2_with fail
              refine (err_yes wr R 0 _ hrd0).mono ?_
              rintro e9 w9 ⟨⟨x9, rfl⟩, hw⟩
              obtain rfl := hw.symm
              go_wp2
              go_roundw
              case rel => exact ⟨i + 1, true, by omega, rfl, rfl, by go_num, hrd0, hbr⟩
              case measure => simp [intOf]; omega
            · refine (bytes_failed wr R 0 _ nm hrd0).mono ?_
              rintro e5 w5 ⟨rfl, hw⟩
              obtain rfl := hw.symm
              go_wp2_with fail
              refine (err_yes wr R 0 _ hrd0).mono ?_
              rintro e9 w9 ⟨⟨x9, rfl⟩, hw⟩
              obtain rfl := hw.symm
              go_wp2
              go_roundw
              case rel => exact ⟨i + 1, true, by omega, rfl, rfl, by go_num, hrd0, hbr⟩
              case measure => simp [intOf]; omega
        · obtain ⟨a8, c8, ev8, hh8, hc8, hr8, -, -⟩ := hrd0
          have r9 : BR wr R none 0 L := rI5
          clear rI5 hE5 hU5 hF5
          go_wp2
          go_quiet ((first | (go_at_call 16; exact Calls.quiet_of_same (items_val _ R 0 c8 a8 ev8 (by exact hh8))) | (go_at_call 15; exact Calls.quiet_of (same_yes _ R a8 none 0 c8 0 _ _ (by omega) (by exact hr8) (by exact r9) (fun i hi => rfl)))))
          go_wp2
          go_ret
          exact ⟨rfl, below_drewN hbwr _⟩
    | some x =>
      go_wp2
      go_loopw [8, 9, 10] (fun pv fv iv wr => ∃ (p i : Nat) (f : Bool), p ≤ n ∧ i ≤ 64 ∧ pv = .int .i64 p ∧ fv = .bool f ∧ iv = .int .i64 i ∧ Rd wr R (n - p) (fun i => L (p + i)) f ∧ Below R w4 wr) (fun _ _ iv _ => 64 - (intOf iv).toNat)
      case atStart => exact ⟨0, 0, false, by omega, by omega, rfl, rfl, rfl, by simpa using hrd, Below.refl _ _⟩
      case round =>
        clear hrd
        obtain ⟨p, i, f, hp, hi, rfl, rfl, rfl, hrd, hbr⟩ := hrel
        have hbwr : Below w.heap.size w wr := hbw4.trans (hbr.mono hRw)
        have rI5 := rI4.below hbr
        have hE5 := hE4.below hbr
        have hU5 := hU4.below hbr
        have hF5 : F.answers wr.tape := by rw [hbr.tape]; exact hF4
        by_cases hlt : i < 64
        · obtain ⟨y, hy, hry⟩ := rI5.drop' (c := n) (Nat.le_refl _) p
          clear rI5
          go_wp2_with fail
          refine (zzHead_any (some y) (n - p) (n - p) (fun i => L (p + i)) (fun i => HL.out _) wr R hry (by omega)).mono ?_
          rintro e w' ⟨rfl, hw⟩
          obtain rfl := hw.symm
          have hfit := headH_fits (n - p) (fun i => L (p + i))
          obtain ⟨h, hh⟩ : ∃ h, h = headH (n - p) (fun i => L (p + i)) := ⟨_, rfl⟩
          have HH : Hid (h = headH (n - p) (fun i => L (p + i))) := hh
          rw [← hh] at hfit ⊢
          clear hh
          obtain ⟨l, s, e, g, sh⟩ := h
          obtain ⟨f1, f2, f3, f4⟩ := hfit
          simp only at f1 f2 f3 f4
          unfold hdV
          simp only
          cases f
          · go_wp2_with fail
            · by_cases hu : UOk ⟨l, s, e, g, sh⟩ (fun i => L (p + i))
              · obtain ⟨hg, hl2, -, -⟩ := id hu
                simp only at hg hl2
                subst hg hl2
                have hsh := f4 rfl
                subst hsh
                have he := f3 rfl
                have HU : Hid (UOk ⟨false, s, e, true, true⟩ (fun i => L (p + i))) := hu
                clear f3 f4 hu
                refine (uint_ok wr R (n - p) (fun i => L (p + i)) (fun i => HL.out _) nm hE5 hrd (by omega) (by rw [← HH.out]; exact HU.out)).mono ?_
                rw [← HH.out]
                simp only
                rintro e5 w5 ⟨rfl, hrd5, hb5⟩
                have hry5 := hry.below hb5
                have hrd6 := Rd.shift hrd5
                have hb6 : Below R w4 w5 := hbr.trans hb5
                clear hrd hrd5 HH hE5 hU5 hF5 hb5 hbr hbwr hry hy
                go_wp2_with fail
                refine (uintOf_ok (some y) (n - p) (n - p) s e true (fun i => L (p + i)) (fun i => HL.out _) w5 R hry5 (by omega) f1 f2 HU.out).mono ?_
                rintro e7 w7 ⟨rfl, hw⟩
                obtain rfl := hw.symm
                clear hry5 HU
                go_wp2_with fail
                refine (err_no w5 R (n - (p + e)) _ hrd6).mono ?_
                rintro e9 w9 ⟨rfl, hw⟩
                obtain rfl := hw.symm
                go_wp2
                go_roundw
                case rel => exact ⟨p + e, i + 1, false, by omega, by omega, by go_num, rfl, by go_num, hrd6, hb6⟩
                case measure => simp [intOf]; omega
              · have HU : Hid (¬ UOk ⟨l, s, e, g, sh⟩ (fun i => L (p + i))) := hu
                clear f3 f4 hu
                refine (uint_no F wr R (n - p) (fun i => L (p + i)) (fun i => HL.out _) nm hF5 hE5 hU5 hrd (by omega) (by rw [← HH.out]; exact HU.out)).mono ?_
                rintro e5 w5 ⟨rfl, hrd5, hb5⟩
                have hry5 := hry.below hb5
                have hb6 : Below R w4 w5 := hbr.trans hb5
                clear hrd HH hE5 hU5 hF5 hb5 hbr hbwr hry hy
                go_wp2_with fail
                refine (uintOf_no (some y) (n - p) (n - p) s e l g sh (fun i => L (p + i)) w5 R hry5 (by omega) f1 f2 HU.out).mono ?_
                rintro e7 w7 ⟨rfl, hw⟩
                obtain rfl := hw.symm
                clear hry5 HU
                go_wp2_with fail
                refine (err_yes w5 R (n - p) _ hrd5).mono ?_
                rintro e9 w9 ⟨⟨x9, rfl⟩, hw⟩
                obtain rfl := hw.symm
                go_wp2
                go_roundw
                case rel => exact ⟨p, i + 1, true, by omega, by omega, by go_num, rfl, by go_num, hrd5, hb6⟩
                case measure => simp [intOf]; omega
            · obtain ⟨z, hz, hrz⟩ := hry.drop' (c := n - p) (Nat.le_refl _) s
              have HRY : Hid (BR wr R (some z) (e - s) (fun i => L (p + (s + i)))) := hrz.take (by omega)
              clear hrz
              by_cases hok : g = true ∧ l = false
              · obtain ⟨rfl, rfl⟩ := hok
                have hsh := f4 rfl
                subst hsh
                have he := f3 rfl
                clear f3 f4
                refine (bytes_ok wr R (n - p) (fun i => L (p + i)) (fun i => HL.out _) nm hE5 hrd (by omega) (by rw [← HH.out]) (by rw [← HH.out])).mono ?_
                rw [← HH.out]
                simp only
                rintro e5 w5 ⟨⟨x5, c5, rfl, hc5, hr5⟩, hrd5, hb5⟩
                have HRY5 : Hid (BR w5 R (some z) (e - s) (fun i => L (p + (s + i)))) := HRY.out.below hb5
                have hrd6 := Rd.shift hrd5
                have hb6 : Below R w4 w5 := hbr.trans hb5
                clear hrd hrd5 HH HRY hE5 hU5 hF5 hb5 hbr hbwr hry hy
                go_wp2_with fail
                refine (same_yes w5 R (some x5) (some z) (e - s) c5 (n - p - s) _ _ (by omega) hr5 HRY5.out (fun i _ => rfl)).mono ?_
                rintro e7 w7 ⟨rfl, k7, rfl⟩
                have hrd8 : Rd (w5.drewN k7) R (n - (p + e)) (fun i => L (p + e + i)) false := hrd6
                have hb8 : Below R w4 (w5.drewN k7) := below_drewN hb6 _
                obtain ⟨W8, hW8⟩ : ∃ W8, W8 = w5.drewN k7 := ⟨_, rfl⟩
                rw [← hW8] at hrd8 hb8 ⊢
                clear hW8 hrd6 hb6 HRY5 hr5 hz
                go_wp2_with fail
                refine (err_no W8 R (n - (p + e)) _ hrd8).mono ?_
                rintro e9 w9 ⟨rfl, hw⟩
                obtain rfl := hw.symm
                go_wp2
                go_roundw
                case rel => exact ⟨p + e, i + 1, false, by omega, by omega, by go_num, rfl, by go_num, hrd8, hb8⟩
                case measure => simp [intOf]; omega
              · refine (bytes_no F wr R (n - p) (fun i => L (p + i)) (fun i => HL.out _) nm hF5 hE5 hrd (by omega) (by rw [← HH.out]; exact hok)).mono ?_
                rw [← HH.out]
                simp only
                rintro e5 w5 ⟨⟨a5, m5, c5, rfl, hs5, hn5⟩, hrd5, hb5⟩
                have HRY5 : Hid (BR w5 R (some z) (e - s) (fun i => L (p + (s + i)))) := HRY.out.below hb5
                have hb6 : Below R w4 w5 := hbr.trans hb5
                have hgl : g = false ∨ (g = true ∧ l = true) := by
                  cases g
                  · exact .inl rfl
                  · cases l
                    · exact absurd ⟨rfl, rfl⟩ hok
                    · exact .inr ⟨rfl, rfl⟩
                clear hrd HH HRY hE5 hU5 hF5 hb5 hbr hbwr hok f3 f4 hry hy
                cases sh
                · obtain ⟨rfl, rfl, rfl⟩ := hn5 rfl
                  clear hs5 hn5 HRY5 hz
                  rcases hgl with rfl | ⟨rfl, rfl⟩
                  · cases l
                    · go_wp2_with fail
                      have hrd8 := hrd5
                      have hb8 := hb6
                      obtain ⟨W8, hW8⟩ : ∃ W8, W8 = w5 := ⟨_, rfl⟩
                      rw [← hW8] at hrd8 hb8 ⊢
                      clear hW8 hrd5 hb6
                      refine (err_yes W8 R (n - p) _ hrd8).mono ?_
                      rintro e9 w9 ⟨⟨x9, rfl⟩, hw⟩
                      obtain rfl := hw.symm
                      go_wp2
                      go_roundw
                      case rel => exact ⟨p, i + 1, true, by omega, by omega, by go_num, rfl, by go_num, hrd8, hb8⟩
                      case measure => simp [intOf]; omega
                    · go_wp2_with fail
                      have hrd8 := hrd5
                      have hb8 := hb6
                      obtain ⟨W8, hW8⟩ : ∃ W8, W8 = w5 := ⟨_, rfl⟩
                      rw [← hW8] at hrd8 hb8 ⊢
                      clear hW8 hrd5 hb6
                      refine (err_yes W8 R (n - p) _ hrd8).mono ?_
                      rintro e9 w9 ⟨⟨x9, rfl⟩, hw⟩
                      obtain rfl := hw.symm
                      go_wp2
                      go_roundw
                      case rel => exact ⟨p, i + 1, true, by omega, by omega, by go_num, rfl, by go_num, hrd8, hb8⟩
                      case measure => simp [intOf]; omega
                  · go_wp2_with fail
                    have hrd8 := hrd5
                    have hb8 := hb6
                    obtain ⟨W8, hW8⟩ : ∃ W8, W8 = w5 := ⟨_, rfl⟩
                    rw [← hW8] at hrd8 hb8 ⊢
                    clear hW8 hrd5 hb6
                    refine (err_yes W8 R (n - p) _ hrd8).mono ?_
                    rintro e9 w9 ⟨⟨x9, rfl⟩, hw⟩
                    obtain rfl := hw.symm
                    go_wp2
                    go_roundw
                    case rel => exact ⟨p, i + 1, true, by omega, by omega, by go_num, rfl, by go_num, hrd8, hb8⟩
                    case measure => simp [intOf]; omega
                · obtain ⟨x5, c6, hx5, hc6, hr5⟩ := hs5 rfl
                  cases hx5
                  clear hs5 hn5
                  rcases hgl with rfl | ⟨rfl, rfl⟩
                  · cases l
                    · go_wp2_with fail
                      refine (same_yes w5 R (some x5) (some z) (e - s) c5 (n - p - s) _ _ (by omega) hr5 HRY5.out (fun i _ => rfl)).mono ?_
                      rintro e7 w7 ⟨rfl, k7, rfl⟩
                      have hrd8 : Rd (w5.drewN k7) R (n - p) (fun i => L (p + i)) true := hrd5
                      have hb8 : Below R w4 (w5.drewN k7) := below_drewN hb6 _
                      obtain ⟨W8, hW8⟩ : ∃ W8, W8 = w5.drewN k7 := ⟨_, rfl⟩
                      rw [← hW8] at hrd8 hb8 ⊢
                      clear hW8 hrd5 hb6 HRY5 hr5 hz
                      go_wp2_with fail
                      refine (err_yes W8 R (n - p) _ hrd8).mono ?_
                      rintro e9 w9 ⟨⟨x9, rfl⟩, hw⟩
                      obtain rfl := hw.symm
                      go_wp2
                      go_roundw
                      case rel => exact ⟨p, i + 1, true, by omega, by omega, by go_num, rfl, by go_num, hrd8, hb8⟩
                      case measure => simp [intOf]; omega
                    · go_wp2_with fail
                      refine (same_yes w5 R (some x5) (some z) (e - s) c5 (n - p - s) _ _ (by omega) hr5 HRY5.out (fun i _ => rfl)).mono ?_
                      rintro e7 w7 ⟨rfl, k7, rfl⟩
                      have hrd8 : Rd (w5.drewN k7) R (n - p) (fun i => L (p + i)) true := hrd5
                      have hb8 : Below R w4 (w5.drewN k7) := below_drewN hb6 _
                      obtain ⟨W8, hW8⟩ : ∃ W8, W8 = w5.drewN k7 := ⟨_, rfl⟩
                      rw [← hW8] at hrd8 hb8 ⊢
                      clear hW8 hrd5 hb6 HRY5 hr5 hz
                      go_wp2_with fail
                      refine (err_yes W8 R (n - p) _ hrd8).mono ?_
                      rintro e9 w9 ⟨⟨x9, rfl⟩, hw⟩
                      obtain rfl := hw.symm
                      go_wp2
                      go_roundw
                      case rel => exact ⟨p, i + 1, true, by omega, by omega, by go_num, rfl, by go_num, hrd8, hb8⟩
                      case measure => simp [intOf]; omega
                  · go_wp2_with fail
                    refine (same_yes w5 R (some x5) (some z) (e - s) c5 (n - p - s) _ _ (by omega) hr5 HRY5.out (fun i _ => rfl)).mono ?_
                    rintro e7 w7 ⟨rfl, k7, rfl⟩
                    have hrd8 : Rd (w5.drewN k7) R (n - p) (fun i => L (p + i)) true := hrd5
                    have hb8 : Below R w4 (w5.drewN k7) := below_drewN hb6 _
                    obtain ⟨W8, hW8⟩ : ∃ W8, W8 = w5.drewN k7 := ⟨_, rfl⟩
                    rw [← hW8] at hrd8 hb8 ⊢
                    clear hW8 hrd5 hb6 HRY5 hr5 hz
                    go_wp2_with fail
                    refine (err_yes W8 R (n - p) _ hrd8).mono ?_
                    rintro e9 w9 ⟨⟨x9, rfl⟩, hw⟩
                    obtain rfl := hw.symm
                    go_wp2
                    go_roundw
                    case rel => exact ⟨p, i + 1, true, by omega, by omega, by go_num, rfl, by go_num, hrd8, hb8⟩
                    case measure => simp [intOf]; omega
          · go_wp2_with fail
            · refine (uint_failed wr R (n - p) _ nm hrd).mono ?_
              rintro e5 w5 ⟨rfl, hw⟩
              obtain rfl := hw.symm
              go_wp2_with fail
              refine (err_yes wr R (n - p) _ hrd).mono ?_
              rintro e9 w9 ⟨⟨x9, rfl⟩, hw⟩
              obtain rfl := hw.symm
              go_wp2
              go_roundw
              case rel => exact ⟨p, i + 1, true, by omega, by omega, by go_num, rfl, by go_num, hrd, hbr⟩
              case measure => simp [intOf]; omega
            · refine (bytes_failed wr R (n - p) _ nm hrd).mono ?_
              rintro e5 w5 ⟨rfl, hw⟩
              obtain rfl := hw.symm
              go_wp2_with fail
              refine (err_yes wr R (n - p) _ hrd).mono ?_
              rintro e9 w9 ⟨⟨x9, rfl⟩, hw⟩
              obtain rfl := hw.symm
              go_wp2
              go_roundw
              case rel => exact ⟨p, i + 1, true, by omega, by omega, by go_num, rfl, by go_num, hrd, hbr⟩
              case measure => simp [intOf]; omega
        · obtain ⟨y, hy, r9⟩ := rI5.drop' (c := n) (Nat.le_refl _) p
          obtain ⟨a8, c8, ev8, hh8, hc8, hr8, -, -⟩ := hrd
          clear rI5 hE5 hU5 hF5
          go_wp2
          go_quiet ((first | (go_at_call 16; exact Calls.quiet_of_same (items_val _ R (n - p) c8 a8 ev8 (by exact hh8))) | (go_at_call 15; exact Calls.quiet_of (same_yes _ R a8 (some y) (n - p) c8 (n - p) _ _ (by omega) (by exact hr8) (by exact r9) (fun i hi => rfl)))))
          go_wp2
          go_ret
          exact ⟨rfl, below_drewN hbwr _⟩
  · unfold maxLen at hn hk
    go_enter Tryf.func6, Tryf.ntmps6
    go_wp2_with fail
    refine (bytes22_bool a n c m nm w (by unfold maxLen; omega) (by unfold maxLen; omega)).mono ?_
    rintro e w' ⟨⟨z, rfl, -⟩, hw⟩
    obtain rfl := hw.symm
    cases z
    · go_wp2
      go_ret
      exact ⟨rfl, Below.refl _ _⟩
    · go_wp2_with fail
      all_goals go_ret
      all_goals exact ⟨rfl, Below.refl _ _⟩
theorem law6n (F : Interp) (a : Option Addr) (n c : Nat) (m : Int) (L : Nat → Nat) (nm : ByteArray) (w : World) (hF : F.answers w.tape) (hE : Errs w w.heap.size) (hU : ErrU w w.heap.size) (hm : 0 ≤ m ∧ m < 18446744073709551616)
    (hL : ∀ i, L i < 256) (hn : n ≤ maxLen) (hk : nm.size ≤ maxLen) (na : a = none → c = 0) (hI : IRow .u8 w a n (fun i => (L i : Int))) :
    Calls Tryf.prog 6 #[.slice a n c, .int .u64 m, .string nm] w fun e w' => e = .returned (.bool true) ∧ Below w.heap.size w w' := by
  obtain ⟨k, rfl⟩ : ∃ k : Nat, m = k := ⟨m.toNat, by omega⟩
  exact law6 F a n c k L nm w hF hE hU hL hn hk na hI
theorem bd64' {n : Int} (h : (Lit.int .u64 n).wf = true) : 0 ≤ n ∧ n < 18446744073709551616 := by
  simp [Lit.wf, IntKind.min, IntKind.max, IntKind.signed, IntKind.bits] at h
  omega
end Go.Proofs.Qxb6604339aFmt
