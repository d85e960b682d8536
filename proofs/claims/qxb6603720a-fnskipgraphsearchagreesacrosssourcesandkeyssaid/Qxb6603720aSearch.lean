/- (*SkipGraph).Search: function 23. -/
import Derived.Test.Qxb6603720aMoves
namespace Go.Proofs.Qxb6603720a
open Go.RowKit

theorem segment_any (w : World) (G n nb x : Nat) (S : Nat → ByteArray) (B P Q : Nat → Int) (h : Graph w G n nb S B P Q) (hn : n ≤ 1048576) (hx : x < n) :
    Calls Try.prog 28 #[.pointer (some ⟨G, 0, none⟩), .int .i64 x] w fun e w' => ∃ t o, e = .returned (.agg #[.string (S x), .string t, .bool o]) ∧ (x + 1 < n → t = S (x + 1) ∧ o = false) ∧ Below w.heap.size w w' := by
  by_cases h1 : x + 1 < n
  · refine (segment_other w G n nb x S B P Q h hn h1).mono ?_
    rintro e w' ⟨rfl, hb⟩
    exact ⟨_, _, rfl, fun _ => ⟨rfl, rfl⟩, hb⟩
  · refine (segment_last w G n nb x S B P Q h hn (by omega)).mono ?_
    rintro e w' ⟨rfl, hb⟩
    exact ⟨_, _, rfl, fun h => absurd h h1, hb⟩

theorem Inv.hops_le {n h src : Nat} {flat : Prop} {a hops : Nat} (i : Inv n h src flat a hops) (hs : src < n) (hh : h < n) : hops ≤ n := by
  have := i.sum
  unfold dist at this
  omega

set_option maxHeartbeats 1000000 in
theorem search_any (w : World) (G n nb src h : Nat) (S : Nat → ByteArray) (B P Q : Nat → Int) (key : ByteArray) (hG : Graph w G n nb S B P Q) (hn : n ≤ 1048576) (hnb : nb ≤ 1048576) (g : WF n nb S B P Q) (hh : Hold n S key h) (hs : src < n) :
    Calls Try.prog 23 #[.pointer (some ⟨G, 0, none⟩), .int .i64 src, .string key] w fun e w' => ∃ hops : Nat, e = .returned (.tuple #[.int .i64 h, .int .i64 hops]) ∧ Inv n h src (Flat n B) h hops ∧ Below w.heap.size w w' := by
  obtain ⟨sa, sc, ba, bc, bb, h1, h2, h3, h4, h5, h6⟩ := id hG
  obtain ⟨sb, so, rfl, hsc⟩ := h2.at g.pos
  obtain ⟨ab, ao, rfl, hac⟩ := h4.at (by omega)
  have c0 := hac src (by omega)
  have c1 := hac (src + 1) (by omega)
  have bd0 := g.bd src (by omega)
  have bd1 := g.bd (src + 1) (by omega)
  have bm := g.bmono src hs
  clear h1 h2 h4 hsc
  go_enter Try.func23, Try.ntmps23
  go_wp2
  go_quiet (fail)
  go_wp2
  go_loopw [7, 8, 9] (fun hp at_ d wr => ∃ (hops a : Nat) (d0 : Int), hp = .int .i64 hops ∧ at_ = .int .i64 a ∧ d = .int .i64 d0 ∧ -1 ≤ d0 ∧ d0 < B (a + 1) - B a ∧ Inv n h src (Flat n B) a hops ∧ (d0 = -1 → a = h) ∧ Below w.heap.size w wr) (fun _ _ d _ => (intOf d + 1).toNat)
  case atStart =>
    exact ⟨0, src, _, rfl, rfl, rfl, by omega, by omega, Inv.start hs, fun e => no_band g hh hs (by omega), below_drewN (Below.refl _ _) _⟩
  case round =>
    obtain ⟨hops, a, d0, rfl, rfl, rfl, hd1, hd2, inv, hz, hb⟩ := hrel
    clear c0 c1 bd0 bd1 bm
    by_cases m0 : d0 = -1
    · obtain rfl := hz m0
      subst m0
      go_wp2
      go_ret2
      exact ⟨hops, rfl, inv, hb⟩
    · obtain ⟨k, rfl⟩ : ∃ k : Nat, d0 = k := ⟨d0.toNat, by omega⟩
      clear hz m0 hd1
      go_wp2
      go_loopw [7, 8] (fun hp at_ wi => ∃ hops a : Nat, hp = .int .i64 hops ∧ at_ = .int .i64 a ∧ (k : Int) < B (a + 1) - B a ∧ Inv n h src (Flat n B) a hops ∧ Below w.heap.size w wi) (fun _ at_ _ => n - (intOf at_).toNat)
      case atStart => exact ⟨hops, a, rfl, rfl, hd2, inv, hb⟩
      case round =>
        clear hd2 inv hb
        obtain ⟨hops, a, rfl, rfl, hd2, inv, hb⟩ := hrel
        have hlt := inv.lt
        have hle := inv.hops_le hs hh.1
        have f6 := cell_below hb h5
        have f5 := cell_below hb h3
        have ca := cell_below hb (hac a (by omega))
        have pl := g.place hlt hd2
        obtain ⟨q, hq, hqn, hqd⟩ := g.next_lk hlt hd2
        have cq := cell_below hb ((h6 (B a + k).toNat (by omega)).2)
        rw [hq] at cq
        have HQ : Hid (Q (B a + k).toNat = q) := hq
        have hgr := hG.below hb
        have bda := g.bd a (by omega)
        clear hq
        by_cases t1 : a < q
        · by_cases t2 : leS (S q) key = true
          · have inv' := move_on g hh inv hd2 HQ.out hqn t1 t2
            go_wp2_with fail
            go_quiet (fail)
            go_wp2_with (first | (go_at_call 28; refine (segment_any _ G n nb q S B P Q (by exact hgr.below (below_drewN (Below.refl _ _) _)) hn hqn).mono ?_; rintro e w1 ⟨t, o, rfl, -, hb1⟩) | (go_at_call 27; refine (moveson_any key (S q) t o _ _).mono ?_; rintro e w2 ⟨rfl, hb2⟩))
            go_roundw
            case rel => exact ⟨hops + 1, q, by go_num, rfl, hqd, inv', ((below_drewN hb _).trans (hb1.mono (by simpa using hb.size))).trans (hb2.mono (by have := hb.size; have := hb1.size; simp at this; omega))⟩
            case measure => simp [intOf]; omega
          · have t3 : leS (S q) key = false := by simpa using t2
            have st : k = 0 → h ≤ a := fun e => by subst e; exact stop_on g hh hlt HQ.out (fun c => t2 c.2)
            clear t2
            go_wp2_with fail
            go_quiet (fail)
            go_wp2_with (first | (go_at_call 28; refine (segment_any _ G n nb q S B P Q (by exact hgr.below (below_drewN (Below.refl _ _) _)) hn hqn).mono ?_; rintro e w1 ⟨t, o, rfl, -, hb1⟩) | (go_at_call 27; refine (moveson_any key (S q) t o _ _).mono ?_; rintro e w2 ⟨rfl, hb2⟩))
            clear t1 t3
            have hb' : Below w.heap.size w w2 := ((below_drewN hb _).trans (hb1.mono (by simpa using hb.size))).trans (hb2.mono (by have := hb.size; have := hb1.size; simp at this; omega))
            clear hb hb1 hb2 f6 f5 ca cq hgr HQ pl bda hle
            go_loopw [7, 8] (fun hp at_ wi => ∃ hops a : Nat, hp = .int .i64 hops ∧ at_ = .int .i64 a ∧ (k : Int) < B (a + 1) - B a ∧ Inv n h src (Flat n B) a hops ∧ (k = 0 → h ≤ a) ∧ Below w.heap.size w wi) (fun _ at_ _ => (intOf at_).toNat)
            case atStart => exact ⟨hops, a, rfl, rfl, hd2, inv, st, hb'⟩
            case round =>
              clear hd2 inv st hb' hlt
              obtain ⟨hops, a, rfl, rfl, hd2, inv, st, hb⟩ := hrel
              have hlt := inv.lt
              have hle := inv.hops_le hs hh.1
              have f6 := cell_below hb h5
              have f5 := cell_below hb h3
              have ca := cell_below hb (hac a (by omega))
              have pl := g.place hlt hd2
              obtain ⟨p, hp, hpn, hpd⟩ := g.prev_lk hlt hd2
              have cp := cell_below hb ((h6 (B a + k).toNat (by omega)).1)
              rw [hp] at cp
              have HP : Hid (P (B a + k).toNat = p) := hp
              have hgr := hG.below hb
              have bda := g.bd a (by omega)
              clear hp
              by_cases t1 : p < a
              · cases t2 : leS (S (p + 1)) key
                · have inv' := move_back g hh inv hd2 HP.out t1 t2
                  have st' : k = 0 → h ≤ p := fun e => by
                    have := (hh.2 (p + 1) (by omega))
                    rw [t2] at this
                    simp at this
                    omega
                  go_wp2_with fail
                  go_quiet (fail)
                  go_wp2_with (first | (go_at_call 28; refine (segment_any _ G n nb p S B P Q (by exact hgr.below (below_drewN (Below.refl _ _) _)) hn hpn).mono ?_; rintro e w1 ⟨t, o, rfl, hto, hb1⟩; obtain ⟨rfl, rfl⟩ := hto (by omega)) | (go_at_call 29; refine (movesback_any key (S p) (S (p + 1)) false _ _).mono ?_; rintro e w2 ⟨rfl, hb2⟩))
                  go_roundw
                  case rel => exact ⟨hops + 1, p, by go_num, rfl, hpd, inv', st', ((below_drewN hb _).trans (hb1.mono (by simpa using hb.size))).trans (hb2.mono (by have := hb.size; have := hb1.size; simp at this; omega))⟩
                  case measure => simp [intOf]; omega
                · have fin : k = 0 → a = h := fun e => by subst e; exact stop_back g hh hlt HP.out (st rfl) (fun c => by rw [t2] at c; simp at c)
                  go_wp2_with fail
                  go_quiet (fail)
                  go_wp2_with (first | (go_at_call 28; refine (segment_any _ G n nb p S B P Q (by exact hgr.below (below_drewN (Below.refl _ _) _)) hn hpn).mono ?_; rintro e w1 ⟨t, o, rfl, hto, hb1⟩; obtain ⟨rfl, rfl⟩ := hto (by omega)) | (go_at_call 29; refine (movesback_any key (S p) (S (p + 1)) false _ _).mono ?_; rintro e w2 ⟨rfl, hb2⟩))
                  go_roundw
                  case rel => exact ⟨hops, a, (k : Int) - 1, rfl, rfl, rfl, by omega, by omega, inv, fun e => fin (by omega), ((below_drewN hb _).trans (hb1.mono (by simpa using hb.size))).trans (hb2.mono (by have := hb.size; have := hb1.size; simp at this; omega))⟩
                  case measure => simp [intOf]
              · have fin : k = 0 → a = h := fun e => by subst e; exact stop_back g hh hlt HP.out (st rfl) (fun c => t1 c.1)
                go_wp2_with fail
                go_quiet (fail)
                go_wp2_with (first | (go_at_call 28; refine (segment_any _ G n nb p S B P Q (by exact hgr.below (below_drewN (Below.refl _ _) _)) hn hpn).mono ?_; rintro e w1 ⟨t, o, rfl, -, hb1⟩) | (go_at_call 29; refine (movesback_any key (S p) t o _ _).mono ?_; rintro e w2 ⟨rfl, hb2⟩))
                go_roundw
                case rel => exact ⟨hops, a, (k : Int) - 1, rfl, rfl, rfl, by omega, by omega, inv, fun e => fin (by omega), ((below_drewN hb _).trans (hb1.mono (by simpa using hb.size))).trans (hb2.mono (by have := hb.size; have := hb1.size; simp at this; omega))⟩
                case measure => simp [intOf]
        · have st : k = 0 → h ≤ a := fun e => by subst e; exact stop_on g hh hlt HQ.out (fun c => t1 c.1)
          go_wp2_with fail
          go_quiet (fail)
          go_wp2_with (first | (go_at_call 28; refine (segment_any _ G n nb q S B P Q (by exact hgr.below (below_drewN (Below.refl _ _) _)) hn hqn).mono ?_; rintro e w1 ⟨t, o, rfl, -, hb1⟩) | (go_at_call 27; refine (moveson_any key (S q) t o _ _).mono ?_; rintro e w2 ⟨rfl, hb2⟩))
          clear t1
          have hb' : Below w.heap.size w w2 := ((below_drewN hb _).trans (hb1.mono (by simpa using hb.size))).trans (hb2.mono (by have := hb.size; have := hb1.size; simp at this; omega))
          clear hb hb1 hb2 f6 f5 ca cq hgr HQ pl bda hle
          go_loopw [7, 8] (fun hp at_ wi => ∃ hops a : Nat, hp = .int .i64 hops ∧ at_ = .int .i64 a ∧ (k : Int) < B (a + 1) - B a ∧ Inv n h src (Flat n B) a hops ∧ (k = 0 → h ≤ a) ∧ Below w.heap.size w wi) (fun _ at_ _ => (intOf at_).toNat)
          case atStart => exact ⟨hops, a, rfl, rfl, hd2, inv, st, hb'⟩
          case round =>
            clear hd2 inv st hb' hlt
            obtain ⟨hops, a, rfl, rfl, hd2, inv, st, hb⟩ := hrel
            have hlt := inv.lt
            have hle := inv.hops_le hs hh.1
            have f6 := cell_below hb h5
            have f5 := cell_below hb h3
            have ca := cell_below hb (hac a (by omega))
            have pl := g.place hlt hd2
            obtain ⟨p, hp, hpn, hpd⟩ := g.prev_lk hlt hd2
            have cp := cell_below hb ((h6 (B a + k).toNat (by omega)).1)
            rw [hp] at cp
            have HP : Hid (P (B a + k).toNat = p) := hp
            have hgr := hG.below hb
            have bda := g.bd a (by omega)
            clear hp
            by_cases t1 : p < a
            · cases t2 : leS (S (p + 1)) key
              · have inv' := move_back g hh inv hd2 HP.out t1 t2
                have st' : k = 0 → h ≤ p := fun e => by
                  have := (hh.2 (p + 1) (by omega))
                  rw [t2] at this
                  simp at this
                  omega
                go_wp2_with fail
                go_quiet (fail)
                go_wp2_with (first | (go_at_call 28; refine (segment_any _ G n nb p S B P Q (by exact hgr.below (below_drewN (Below.refl _ _) _)) hn hpn).mono ?_; rintro e w1 ⟨t, o, rfl, hto, hb1⟩; obtain ⟨rfl, rfl⟩ := hto (by omega)) | (go_at_call 29; refine (movesback_any key (S p) (S (p + 1)) false _ _).mono ?_; rintro e w2 ⟨rfl, hb2⟩))
                go_roundw
                case rel => exact ⟨hops + 1, p, by go_num, rfl, hpd, inv', st', ((below_drewN hb _).trans (hb1.mono (by simpa using hb.size))).trans (hb2.mono (by have := hb.size; have := hb1.size; simp at this; omega))⟩
                case measure => simp [intOf]; omega
              · have fin : k = 0 → a = h := fun e => by subst e; exact stop_back g hh hlt HP.out (st rfl) (fun c => by rw [t2] at c; simp at c)
                go_wp2_with fail
                go_quiet (fail)
                go_wp2_with (first | (go_at_call 28; refine (segment_any _ G n nb p S B P Q (by exact hgr.below (below_drewN (Below.refl _ _) _)) hn hpn).mono ?_; rintro e w1 ⟨t, o, rfl, hto, hb1⟩; obtain ⟨rfl, rfl⟩ := hto (by omega)) | (go_at_call 29; refine (movesback_any key (S p) (S (p + 1)) false _ _).mono ?_; rintro e w2 ⟨rfl, hb2⟩))
                go_roundw
                case rel => exact ⟨hops, a, (k : Int) - 1, rfl, rfl, rfl, by omega, by omega, inv, fun e => fin (by omega), ((below_drewN hb _).trans (hb1.mono (by simpa using hb.size))).trans (hb2.mono (by have := hb.size; have := hb1.size; simp at this; omega))⟩
                case measure => simp [intOf]
            · have fin : k = 0 → a = h := fun e => by subst e; exact stop_back g hh hlt HP.out (st rfl) (fun c => t1 c.1)
              go_wp2_with fail
              go_quiet (fail)
              go_wp2_with (first | (go_at_call 28; refine (segment_any _ G n nb p S B P Q (by exact hgr.below (below_drewN (Below.refl _ _) _)) hn hpn).mono ?_; rintro e w1 ⟨t, o, rfl, -, hb1⟩) | (go_at_call 29; refine (movesback_any key (S p) t o _ _).mono ?_; rintro e w2 ⟨rfl, hb2⟩))
              go_roundw
              case rel => exact ⟨hops, a, (k : Int) - 1, rfl, rfl, rfl, by omega, by omega, inv, fun e => fin (by omega), ((below_drewN hb _).trans (hb1.mono (by simpa using hb.size))).trans (hb2.mono (by have := hb.size; have := hb1.size; simp at this; omega))⟩
              case measure => simp [intOf]
end Go.Proofs.Qxb6603720a
