/- FnWalkVisitsExactlyTheReachable, whatever the lengths. -/
import Derived.Test.Qxb6604394aLaw5
namespace Go.Proofs.Qxb6604394a
open Go.RowKit

set_option maxRecDepth 100000 in
set_option maxHeartbeats 4000000 in
theorem law5 (n np nb m vc pc bc fc : Nat) (va pa ba fa : Option Addr) (V FZ : Nat → Nat) (PA BA : Nat → Option Addr) (PL PC BL BC : Nat → Nat) (PZ BZ : Nat → Nat → Nat) (w : World) (hn : n ≤ maxLen) (hnp : np ≤ maxLen) (hnb : nb ≤ maxLen) (hm : m ≤ maxLen)
    (LPL : Hid (∀ i, i < np → PL i ≤ maxLen)) (LBL : Hid (∀ i, i < nb → BL i ≤ maxLen)) (BV : Hid (∀ i, V i < 4294967296)) (BF : Hid (∀ i, FZ i < 4294967296)) (BPZ : Hid (∀ i j, PZ i j < 4294967296)) (BBZ : Hid (∀ i j, BZ i j < 4294967296))
    (hV : URow w va n V) (hP : GRow w pa np PA PL PC PZ) (hB : GRow w ba nb BA BL BC BZ) (hF : URow w fa m FZ) :
    Calls Try.prog 5 #[.slice va n vc, .slice pa np pc, .slice ba nb bc, .slice fa m fc] w fun e w' => e = .returned (.bool true) ∧ Below w.heap.size w w' := by
  by_cases heq : np = n ∧ nb = n
  · obtain ⟨rfl, rfl⟩ := heq
    exact law5_eq _ m vc pc bc fc va pa ba fa V FZ PA BA PL PC BL BC PZ BZ w hn hm LPL LBL BV BF BPZ BBZ hV hP hB hF
  have HEQ : Hid (¬ (np = n ∧ nb = n)) := heq
  clear heq
  go_enter Try.func5, Try.ntmps5
  go_wp2_with fail
  refine (bytes12_any n np nb m vc pc bc fc va pa ba fa PA BA PL PC BL BC PZ BZ w hn hnp hnb hm LPL LBL hP hB).mono ?_
  rintro e w' ⟨⟨z, rfl, hz⟩, hw⟩
  obtain rfl := hw.symm
  cases z
  · clear hz
    unfold maxLen at hn hm hnp hnb
    go_wp2
    go_ret
    exact ⟨rfl, Below.refl _ _⟩
  obtain ⟨n1, n2, n3, m1, KP, KB⟩ := hz rfl
  clear hz hn hm hnp hnb LPL LBL
  go_wp2_with fail
  refine (small_any n np nb m vc pc bc fc va pa ba fa PA BA PL PC BL BC PZ BZ w n1 n2 n3 m1 KP KB hP hB).mono ?_
  rintro e w' ⟨⟨z, rfl, -⟩, hw⟩
  obtain rfl := hw.symm
  cases z
  · go_wp2
    go_ret
    exact ⟨rfl, Below.refl _ _⟩
  by_cases h1 : np = n
  · subst h1
    have q : ((nb : Int) != (np : Int)) = true := by have := HEQ.out; simp; omega
    go_wp2
    go_ret
    exact ⟨rfl, Below.refl _ _⟩
  · have q : ((np : Int) != (n : Int)) = true := by simp; omega
    go_wp2
    go_ret
    exact ⟨rfl, Below.refl _ _⟩
end Go.Proofs.Qxb6604394a
