/-
  fmt.Errorf at the two formats of DecodeMessage: it hands back an error that is not nil; new blocks alone. fmt's text is whatever F gives.
-/
import Derived.Test.Qxb6616623aFmtDec
import Derived.Stop.CallBack
import Derived.Stop.IfaceNil
import GoSem.ClaimData
namespace Go.Proofs.Qxb6616623aFmt
open Go.RowKit Go.Extern.Stop Go.Stop Go.Extern

theorem call26 (args : Array Value) (w : World) : (callFunc 26 args).run Tryf.prog w = ((FmtStop.errorf #[9, 73] #[37] args).run Tryf.prog w).andThen fun v w' => .ok (.value v) w' :=
  run_callFunc_extern Tryf.func26 (by kernel_rfl) (by kernel_rfl) (by kernel_rfl) (by kernel_rfl) args w
theorem guardf (name : String) (w : World) : (FmtStop.guard name).run Tryf.prog w = .ok () w := by kernel_rfl

def fmt1 : ByteArray := ⟨#[109, 101, 115, 115, 97, 103, 101, 32, 111, 102, 32, 117, 110, 107, 110, 111, 119, 110, 32, 116, 121, 112, 101, 32, 37, 100]⟩
def fmt2 : ByteArray := ⟨#[109, 101, 115, 115, 97, 103, 101, 32, 111, 102, 32, 116, 121, 112, 101, 32, 37, 100, 58, 32, 37, 119]⟩
theorem fmt1p : FmtStop.printed? fmt1 1 = some [(0, 100, false)] := by kernel_rfl
theorem fmt1r (w : World) : (FmtDoors.printed fmt1 1).run Tryf.prog w = .ok [(0, 100, false)] w := by kernel_rfl
theorem fmt2p : FmtStop.printed? fmt2 2 = some [(0, 100, false), (1, 119, false)] := by kernel_rfl
theorem fmt2r (w : World) : (FmtDoors.printed fmt2 2).run Tryf.prog w = .ok [(0, 100, false), (1, 119, false)] w := by kernel_rfl
def shape31 : List UInt8 := 6 :: FmtStop.pack [112, 114, 111, 116, 111, 99, 111, 108, 46, 77, 101, 115, 115, 97, 103, 101, 84, 121, 112, 101]
theorem op31 (name : String) (x : Int) (w : World) : (FmtStop.operand name false 100 false (.iface 31 (.int .u8 x))).run Tryf.prog w = .ok (shape31, Go.Extern.Stop.digits 8 (x % 2 ^ 64).toNat) w := by kernel_rfl
theorem op31w (name : String) (x : Int) (w : World) : (FmtStop.operand name true 100 false (.iface 31 (.int .u8 x))).run Tryf.prog w = .ok (shape31, Go.Extern.Stop.digits 8 (x % 2 ^ 64).toNat) w := by kernel_rfl
theorem ptr70 (w : World) : (FmtStop.ptrTo "errors.errorString").run Tryf.prog w = .ok 70 w := by kernel_rfl
theorem elem70 (w : World) : (elemOf 70).run Tryf.prog w = .ok 72 w := by kernel_rfl
theorem isError70 (w : World) : (FmtDoors.textMethod 70 "Error").run Tryf.prog w = .ok true w := by kernel_rfl
theorem ptr74 (w : World) : (FmtStop.ptrTo "fmt.wrapError").run Tryf.prog w = .ok 74 w := by kernel_rfl
theorem elem74 (w : World) : (elemOf 74).run Tryf.prog w = .ok 95 w := by kernel_rfl
theorem isError74 (w : World) : (FmtDoors.textMethod 74 "Error").run Tryf.prog w = .ok true w := by kernel_rfl
theorem typeStr70 (w : World) : (typeStr 70).run Tryf.prog w = .ok ((Tryf.prog.typeName? 3 70).getD "") w := by kernel_rfl
theorem opPlain70 (name : String) (a : Addr) (s : ByteArray) (w : World) (hc : w.cell? a = some (.string s)) :
    ∃ r, (FmtStop.operand name true 119 false (.iface 70 (.pointer (some a)))).run Tryf.prog w = .ok r w := by
  have h1 := typeStr70 w
  have d2 : Tryf.t70.desc = .pointer 72 := rfl
  have d3 : Tryf.t72.desc = .named "errors.errorString" 71 := rfl
  generalize (Tryf.prog.typeName? 3 70).getD "" = nm at h1
  exact ⟨_, by simp [FmtStop.operand, h1, d2, d3, run_load, hc]; rfl⟩

set_option maxHeartbeats 1000000 in
theorem errf1a (F : Interp) (V : Nat) (t : Int) (w : World) (hF : F.answers w.tape) (hc : w.cell? ⟨V, 0, none⟩ = some (.iface 31 (.int .u8 t))) :
    Calls Tryf.prog 19 #[.string fmt1, .slice (some ⟨V, 0, none⟩) 1 1] w fun e w' => ∃ T p, e = .returned (.iface T (.pointer (some p))) ∧ Below w.heap.size w w' := by
  have hF' : ∀ i name reading k range, w.tape i (.extern (word name reading k) range) = F name reading k := hF
  have a1 := call26
  have a2 := guardf
  have a3 := fmt1r
  have a4 := op31
  have a5 := op31w
  have a6 := ptr70
  have a7 := elem70
  have a8 := isError70
  have a9 := fmt1p
  go_enter Tryf.func19, Tryf.ntmps19
  go_wp2
  go_ret
  exact ⟨70, _, rfl, ((Below.refl _ w).alloc (Nat.le_refl _) _).drew⟩

set_option maxHeartbeats 1000000 in
theorem errf2a (F : Interp) (V : Nat) (t : Int) (a : Addr) (s : ByteArray) (w : World) (hF : F.answers w.tape) (hc : w.cell? ⟨V, 0, none⟩ = some (.iface 31 (.int .u8 t))) (hc1 : w.cell? ⟨V, 1, none⟩ = some (.iface 70 (.pointer (some a)))) (hs : w.cell? a = some (.string s)) :
    Calls Tryf.prog 19 #[.string fmt2, .slice (some ⟨V, 0, none⟩) 2 2] w fun e w' => ∃ T p, e = .returned (.iface T (.pointer (some p))) ∧ Below w.heap.size w w' := by
  have hF' : ∀ i name reading k range, w.tape i (.extern (word name reading k) range) = F name reading k := hF
  have a1 := call26
  have a2 := guardf
  have a3 := fmt2r
  have a4 := op31
  have a5 := op31w
  have a6 := ptr74
  have a7 := elem74
  have a8 := isError74
  have a9 := fmt2p
  obtain ⟨r, hr⟩ := opPlain70 "fmt.errorf" a s w hs
  obtain ⟨r1, r2⟩ := r
  have b6 := ptr70
  have b7 := elem70
  have b8 := isError70
  go_enter Tryf.func19, Tryf.ntmps19
  go_wp2
  go_ret
  exact ⟨74, _, rfl, ((Below.refl _ w).alloc (Nat.le_refl _) _).drew⟩

theorem errf1 (F : Interp) (V : Nat) (t : Int) (w : World) (hF : F.answers w.tape) (hc : w.cell? ⟨V, 0, none⟩ = some (.iface 31 (.int .u8 t))) :
    Calls Tryf.prog 19 #[.string ⟨#[109, 101, 115, 115, 97, 103, 101, 32, 111, 102, 32, 117, 110, 107, 110, 111, 119, 110, 32, 116, 121, 112, 101, 32, 37, 100]⟩, .slice (some ⟨V, 0, none⟩) 1 1] w fun e w' => ∃ T p, e = .returned (.iface T (.pointer (some p))) ∧ Below w.heap.size w w' :=
  errf1a F V t w hF hc
theorem errf2 (F : Interp) (V : Nat) (t : Int) (a : Addr) (s : ByteArray) (w : World) (hF : F.answers w.tape) (hc : w.cell? ⟨V, 0, none⟩ = some (.iface 31 (.int .u8 t))) (hc1 : w.cell? ⟨V, 1, none⟩ = some (.iface 70 (.pointer (some a)))) (hs : w.cell? a = some (.string s)) :
    Calls Tryf.prog 19 #[.string ⟨#[109, 101, 115, 115, 97, 103, 101, 32, 111, 102, 32, 116, 121, 112, 101, 32, 37, 100, 58, 32, 37, 119]⟩, .slice (some ⟨V, 0, none⟩) 2 2] w fun e w' => ∃ T p, e = .returned (.iface T (.pointer (some p))) ∧ Below w.heap.size w w' :=
  errf2a F V t a s w hF hc hc1 hs
end Go.Proofs.Qxb6616623aFmt
