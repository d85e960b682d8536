/- What every row's step of this seat wants: the sentinels out of 'laid', the witness's world. -/
import Derived.Test.Qxb6604339aFmtCards
import Derived.Test.Qxb6604339aFmtTie
import Derived.Test.Qxb6604339aFmtRd
import Derived.ProofKit
import Derived.OpenShut
import Derived.ShutString
import Derived.ChangeOld
import Derived.ChangeVars
import Derived.RowKitTokens
import Derived.LaidMore
import Derived.LaidHandle
import Derived.Deep.DeepLaidRun
import Derived.Deep.DeepWitnessRef
import Derived.Stop.JoinedTold
import Derived.Stop.LaidErr
import Derived.Stop.ErrReads
import Derived.SevenTiedAt
namespace Go.Proofs.Qxb6604339aFmt
open Go.ChangeShapes Go.WideShapes Go.ChangeAt Go.RowKit
open Go.Extern.Stop Go.Stop Go.Extern

theorem Tryf.own : ownKnob Tryf.prog.godebug = none := by kernel_rfl
theorem Tryf.laidOut : laidOutB Tryf.pinned.checked.prog = true := by kernel_rfl
theorem Tryf.laidOut' : laidOutB Tryf.prog = true := by kernel_rfl
theorem Tryf.stops : Tryf.pinned.checked.prog.stops = ["fmt.errorf"] := by kernel_rfl
theorem Tryf.stopKnobs : Tryf.pinned.checked.prog.stopKnobs = [] := by kernel_rfl
theorem Tryf.quiet (os : Os) : Stop.quiet Tryf.pinned.checked.prog os := by
  intro k hk
  rw [Tryf.stopKnobs] at hk
  cases hk
theorem star66 : "*" ++ "errors.errorString" = "*errors.errorString" := by decide
theorem row66 (u : TypeId) (h : Tryf.prog.typeName? 3 u = some "*errors.errorString") : u = 66 :=
  typeName_ptr_named (nm := "errors.errorString") (by rw [star66]; kernel_rfl) (by kernel_rfl) (by decide) u (by rw [star66]; exact h)
theorem mem_getD {zs : List Int} {i : Nat} (h : i < zs.length) : zs.getD i 0 ∈ zs := by
  rw [List.getD_eq_getElem?_getD, List.getElem?_eq_getElem h]
  exact List.getElem_mem h
theorem bd8 {n : Int} (h : (Lit.int .u8 n).wf = true) : 0 ≤ n ∧ n ≤ 255 := by
  simp [Lit.wf, IntKind.min, IntKind.max, IntKind.signed, IntKind.bits] at h
  omega
/-- A []byte that came in. -/
theorem open_bytes {H : Type} {enc : TypeId × Value → H} {W : World} {a : Option Addr} {len cap : Nat} {d : DataW H} {p : List MemPlace} (h : DataW.Trod enc Tryf.prog W 0 (fun _ => true) true 22 (.slice a len cap) d p) :
    ∃ L : Nat → Nat, (∀ i, L i < 256) ∧ len ≤ maxLen ∧ (a = none → cap = 0) ∧ IRow .u8 W a len (fun i => (L i : Int)) := by
  obtain ⟨fuel, hf⟩ := h
  rcases open_ints Tryf.underlying22 Tryf.underlying5 (by kernel_rfl) hf with ⟨hcs, _⟩ | ⟨x, l, c, zs, hcs, _, hl, hm, hz, _, hcell, hwz⟩
  · simp [Value.cells] at hcs
    obtain ⟨rfl, rfl, rfl⟩ := hcs
    exact ⟨fun _ => 0, by simp, Nat.zero_le _, fun _ => rfl, ⟨fun _ => rfl, fun x hx => by cases hx⟩⟩
  · simp [Value.cells] at hcs
    obtain ⟨rfl, rfl, rfl⟩ := hcs
    have hz' : zs.length = cap := by simpa using hz
    refine ⟨fun i => (zs.getD i 0).toNat, fun i => ?_, Nat.le_trans hl hm, fun h => (by cases h), ⟨fun h => (by cases h), fun y hy i hi => ?_⟩⟩
    · show (zs.getD i 0).toNat < 256
      by_cases hi : i < zs.length
      · have := bd8 (hwz _ (mem_getD hi)); omega
      · rw [List.getD_eq_getElem?_getD, List.getElem?_eq_none (by omega)]; simp
    · cases hy
      have hb := bd8 (hwz _ (mem_getD (show i < zs.length by omega)))
      rw [hcell i (by omega)]
      show some (Value.int .u8 (zs.getD i 0)) = some (Value.int .u8 (((zs.getD i 0).toNat : Nat) : Int))
      rw [Int.toNat_of_nonneg hb.1]
theorem gname0 : Tryf.prog.globalNamed "example.com/scoutwire/scoutwire/internal/rlp.ErrNonCanonical" = some 0 := by kernel_rfl
theorem gtype0 : (Tryf.prog.globals[0]?).map (·.type) = some 30 := by kernel_rfl
theorem gname1 : Tryf.prog.globalNamed "example.com/scoutwire/scoutwire/internal/rlp.ErrNotString" = some 1 := by kernel_rfl
theorem gtype1 : (Tryf.prog.globals[1]?).map (·.type) = some 30 := by kernel_rfl
theorem gname2 : Tryf.prog.globalNamed "example.com/scoutwire/scoutwire/internal/rlp.ErrUintOverflow" = some 2 := by kernel_rfl
theorem gtype2 : (Tryf.prog.globals[2]?).map (·.type) = some 30 := by kernel_rfl
theorem gname3 : Tryf.prog.globalNamed "example.com/scoutwire/scoutwire/internal/rlp.ErrTruncated" = some 3 := by kernel_rfl
theorem gtype3 : (Tryf.prog.globals[3]?).map (·.type) = some 30 := by kernel_rfl
theorem vars_read3 {H : Type} (enc : TypeId × Value → H) {P : Program} {W : World} {n0 n1 n2 : String} {g0 g1 g2 : Nat} {t0 t1 t2 : TypeId} {ms0 ms1 ms2 : Array (String × TypeId)} {x0 x1 x2 : Value}
    (hg0 : P.globalNamed n0 = some g0) (ht0 : (P.globals[g0]?).map (·.type) = some t0) (hi0 : P.underlying t0 = some (.interface ms0)) (h0 : W.var? P n0 = some #[x0]) (i0 : IsIface x0)
    (hg1 : P.globalNamed n1 = some g1) (ht1 : (P.globals[g1]?).map (·.type) = some t1) (hi1 : P.underlying t1 = some (.interface ms1)) (h1 : W.var? P n1 = some #[x1]) (i1 : IsIface x1)
    (hg2 : P.globalNamed n2 = some g2) (ht2 : (P.globals[g2]?).map (·.type) = some t2) (hi2 : P.underlying t2 = some (.interface ms2)) (h2 : W.var? P n2 = some #[x2]) (i2 : IsIface x2) (sp : Nat → Bool) :
    DataW.TrodVars enc P W sp [n0, n1, n2] [tok enc x0, tok enc x1, tok enc x2] [.cell g0 0, .cell g1 0, .cell g2 0] :=
  ⟨g0, t0, #[x0], 1, [], [.cell g1 0, .cell g2 0], hg0, ht0, h0, trod_held hi0 i0 0, vars_read2 enc hg1 ht1 hi1 h1 i1 hg2 ht2 hi2 h2 i2 sp, rfl⟩
theorem vars_read4 {H : Type} (enc : TypeId × Value → H) {P : Program} {W : World} {n0 n1 n2 n3 : String} {g0 g1 g2 g3 : Nat} {t0 t1 t2 t3 : TypeId} {ms0 ms1 ms2 ms3 : Array (String × TypeId)} {x0 x1 x2 x3 : Value}
    (hg0 : P.globalNamed n0 = some g0) (ht0 : (P.globals[g0]?).map (·.type) = some t0) (hi0 : P.underlying t0 = some (.interface ms0)) (h0 : W.var? P n0 = some #[x0]) (i0 : IsIface x0)
    (hg1 : P.globalNamed n1 = some g1) (ht1 : (P.globals[g1]?).map (·.type) = some t1) (hi1 : P.underlying t1 = some (.interface ms1)) (h1 : W.var? P n1 = some #[x1]) (i1 : IsIface x1)
    (hg2 : P.globalNamed n2 = some g2) (ht2 : (P.globals[g2]?).map (·.type) = some t2) (hi2 : P.underlying t2 = some (.interface ms2)) (h2 : W.var? P n2 = some #[x2]) (i2 : IsIface x2)
    (hg3 : P.globalNamed n3 = some g3) (ht3 : (P.globals[g3]?).map (·.type) = some t3) (hi3 : P.underlying t3 = some (.interface ms3)) (h3 : W.var? P n3 = some #[x3]) (i3 : IsIface x3) (sp : Nat → Bool) :
    DataW.TrodVars enc P W sp [n0, n1, n2, n3] [tok enc x0, tok enc x1, tok enc x2, tok enc x3] [.cell g0 0, .cell g1 0, .cell g2 0, .cell g3 0] :=
  ⟨g0, t0, #[x0], 1, [], [.cell g1 0, .cell g2 0, .cell g3 0], hg0, ht0, h0, trod_held hi0 i0 0, vars_read3 enc hg1 ht1 hi1 h1 i1 hg2 ht2 hi2 h2 i2 hg3 ht3 hi3 h3 i3 sp, rfl⟩
theorem globals4 {W : World} {g : Nat} {n : String} {a : Addr} {s : ByteArray} (hn : Tryf.prog.globalNamed n = some g) (hv : W.var? Tryf.prog n = some #[.iface 66 (.pointer (some a))]) (hc : W.cell? a = some (.string s)) :
    ∃ v, W.cell? ⟨g, 0, none⟩ = some v ∧ IsErr W W.heap.size v :=
  ⟨_, by simpa using World.var?_cell hn hv 0, a, s, rfl, World.block_lt_of_cell? _ _ hc, hc⟩
end Go.Proofs.Qxb6604339aFmt
