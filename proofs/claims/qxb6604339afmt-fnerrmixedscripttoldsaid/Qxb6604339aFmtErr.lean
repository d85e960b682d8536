/- fmt.Errorf ("%s: %w") over the stop: function 35. The facts are the guide's own kind of closed fact, at this dump. -/
import Derived.Test.Qxb6604339aFmtMem
import Derived.Stop.CallBack
import Derived.Stop.IfaceNil
import GoSem.ClaimData
namespace Go.Proofs.Qxb6604339aFmt
open Go.RowKit Go.Extern.Stop Go.Stop Go.Extern

theorem call37 (args : Array Value) (w : World) : (callFunc 37 args).run Tryf.prog w = ((FmtStop.errorf #[9, 62] #[30] args).run Tryf.prog w).andThen fun v w' => .ok (.value v) w' :=
  run_callFunc_extern Tryf.func37 (by kernel_rfl) (by kernel_rfl) (by kernel_rfl) (by kernel_rfl) args w
theorem guardF (name : String) (w : World) : (FmtStop.guard name).run Tryf.prog w = .ok () w := by kernel_rfl
theorem fmt0 : FmtStop.printed? ⟨#[37, 115, 58, 32, 37, 119]⟩ 2 = some [(0, 115, false), (1, 119, false)] := by kernel_rfl
theorem fmt0r (w : World) : (FmtDoors.printed ⟨#[37, 115, 58, 32, 37, 119]⟩ 2).run Tryf.prog w = .ok [(0, 115, false), (1, 119, false)] w := by kernel_rfl
def shape9 : List UInt8 := [12, 6, 0, 0, 0, 0, 0, 0, 0, 115, 116, 114, 105, 110, 103]
theorem op9_115w (name : String) (x : ByteArray) (w : World) : (FmtStop.operand name true 115 false (.iface 9 (.string x))).run Tryf.prog w = .ok (shape9, FmtStop.pack x.data.toList) w := by kernel_rfl
theorem ptr66 (w : World) : (FmtStop.ptrTo "errors.errorString").run Tryf.prog w = .ok 66 w := by kernel_rfl
theorem elem66 (w : World) : (elemOf 66).run Tryf.prog w = .ok 68 w := by kernel_rfl
theorem isError66' (w : World) : (FmtDoors.textMethod 66 "Error").run Tryf.prog w = .ok true w := by kernel_rfl
def plain66 : List UInt8 := 14 :: FmtStop.pack "*errors.errorString".toUTF8.data.toList
theorem opPlain66_119w (name : String) (a : Addr) (s : ByteArray) (w : World) (hc : w.cell? a = some (.string s)) :
    (FmtStop.operand name true 119 false (.iface 66 (.pointer (some a)))).run Tryf.prog w = .ok (plain66, s.data.toList) w := by
  have h1 : (typeStr 66).run Tryf.prog w = .ok "*errors.errorString" w := by kernel_rfl
  have d2 : Tryf.t66.desc = .pointer 68 := rfl
  have d3 : Tryf.t68.desc = .named "errors.errorString" 67 := rfl
  simp [FmtStop.operand, h1, d2, d3, run_load, hc, plain66]
theorem ptr64 (w : World) : (FmtStop.ptrTo "fmt.wrapError").run Tryf.prog w = .ok 64 w := by kernel_rfl
theorem elem64 (w : World) : (elemOf 64).run Tryf.prog w = .ok 87 w := by kernel_rfl
theorem isError64' (w : World) : (FmtDoors.textMethod 64 "Error").run Tryf.prog w = .ok true w := by kernel_rfl

/-- fmt.Errorf("%s: %w", name, err), err of errors.New's make: an error comes back; nothing that was there has turned. -/
theorem errorf_any (F : Interp) (nm s : ByteArray) (b : Nat) (a : Addr) (w : World) (hF : F.answers w.tape)
    (h0 : w.cell? ⟨b, 0, none⟩ = some (.iface 9 (.string nm))) (h1 : w.cell? ⟨b, 1, none⟩ = some (.iface 66 (.pointer (some a)))) (hs : w.cell? a = some (.string s)) :
    Calls Tryf.prog 35 #[.string ⟨#[37, 115, 58, 32, 37, 119]⟩, .slice (some ⟨b, 0, none⟩) 2 2] w fun e w' => (∃ x, e = .returned (.iface 64 (.pointer (some x)))) ∧ Below w.heap.size w w' := by
  have hF' := answers_open hF
  have f1 := call37
  have f2 := guardF
  have f3 := fmt0
  have f4 := fmt0r
  have f5 := op9_115w
  have f6 := ptr66
  have f7 := elem66
  have f8 := isError66'
  have f9 := opPlain66_119w "fmt.errorf" a s w hs
  have f10 := ptr64
  have f11 := elem64
  have f12 := isError64'
  go_enter Tryf.func35, Tryf.ntmps35
  go_wp2
  go_ret
  exact ⟨⟨_, rfl⟩, ((Below.refl _ w).alloc (Nat.le_refl _) _).drew⟩
end Go.Proofs.Qxb6604339aFmt
