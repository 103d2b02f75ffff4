/- The closed facts of this dump that a walk over fmt's stopped 'errorf' asks for, each by the kernel; fmt.Errorf by its contract at each of the five formats. -/
import Derived.Test.Qxb6628871aFmtRows
import Derived.WalkKit
import Derived.WalkSpells
import Derived.Below
import Derived.Handy
import Derived.Stop.CallBack
import Derived.Stop.IfaceNil
namespace Go.Proofs.Qxb6628871aFmt
open Go.RowKit Go.Extern.Stop Go.Stop Go.Extern

theorem call15 (args : Array Value) (w : World) : (callFunc 15 args).run Tryf.prog w = ((FmtStop.errorf #[9, 38] #[26] args).run Tryf.prog w).andThen fun v w' => .ok (.value v) w' :=
  run_callFunc_extern Tryf.func15 (by kernel_rfl) (by kernel_rfl) (by kernel_rfl) (by kernel_rfl) args w
theorem guardF (name : String) (w : World) : (FmtStop.guard name).run Tryf.prog w = .ok () w := by kernel_rfl
def fmtA : ByteArray := ⟨#[37, 113, 32, 105, 115, 32, 110, 111, 116, 32, 97, 32, 100, 101, 99, 105, 109, 97, 108]⟩
theorem fmtAr (w : World) : (FmtDoors.printed ⟨#[37, 113, 32, 105, 115, 32, 110, 111, 116, 32, 97, 32, 100, 101, 99, 105, 109, 97, 108]⟩ 1).run Tryf.prog w = .ok [(0, 113, false)] w := by kernel_rfl
def fmtB : ByteArray := ⟨#[37, 113, 32, 104, 97, 115, 32, 109, 111, 114, 101, 32, 116, 104, 97, 110, 32, 37, 100, 32, 100, 105, 103, 105, 116, 115]⟩
theorem fmtBr (w : World) : (FmtDoors.printed ⟨#[37, 113, 32, 104, 97, 115, 32, 109, 111, 114, 101, 32, 116, 104, 97, 110, 32, 37, 100, 32, 100, 105, 103, 105, 116, 115]⟩ 2).run Tryf.prog w = .ok [(0, 113, false), (1, 100, false)] w := by kernel_rfl
def fmtC : ByteArray := ⟨#[37, 113, 32, 104, 97, 115, 32, 109, 111, 114, 101, 32, 116, 104, 97, 110, 32, 37, 100, 32, 100, 101, 99, 105, 109, 97, 108, 115]⟩
theorem fmtCr (w : World) : (FmtDoors.printed ⟨#[37, 113, 32, 104, 97, 115, 32, 109, 111, 114, 101, 32, 116, 104, 97, 110, 32, 37, 100, 32, 100, 101, 99, 105, 109, 97, 108, 115]⟩ 2).run Tryf.prog w = .ok [(0, 113, false), (1, 100, false)] w := by kernel_rfl
def fmtD : ByteArray := ⟨#[119, 97, 110, 116, 32, 97, 32, 119, 104, 111, 108, 101, 32, 110, 117, 109, 98, 101, 114, 32, 111, 102, 32, 115, 104, 97, 114, 101, 115, 58, 32, 37, 119]⟩
theorem fmtDr (w : World) : (FmtDoors.printed ⟨#[119, 97, 110, 116, 32, 97, 32, 119, 104, 111, 108, 101, 32, 110, 117, 109, 98, 101, 114, 32, 111, 102, 32, 115, 104, 97, 114, 101, 115, 58, 32, 37, 119]⟩ 1).run Tryf.prog w = .ok [(0, 119, false)] w := by kernel_rfl
def fmtE : ByteArray := ⟨#[113, 117, 97, 110, 116, 105, 116, 121, 32, 37, 115, 44, 32, 119, 97, 110, 116, 32, 97, 32, 112, 111, 115, 105, 116, 105, 118, 101, 32, 110, 117, 109, 98, 101, 114, 32, 111, 102, 32, 115, 104, 97, 114, 101, 115]⟩
theorem fmtEr (w : World) : (FmtDoors.printed ⟨#[113, 117, 97, 110, 116, 105, 116, 121, 32, 37, 115, 44, 32, 119, 97, 110, 116, 32, 97, 32, 112, 111, 115, 105, 116, 105, 118, 101, 32, 110, 117, 109, 98, 101, 114, 32, 111, 102, 32, 115, 104, 97, 114, 101, 115]⟩ 1).run Tryf.prog w = .ok [(0, 115, false)] w := by kernel_rfl

def shape9 : List UInt8 := [12, 6, 0, 0, 0, 0, 0, 0, 0, 115, 116, 114, 105, 110, 103]
theorem op9_113 (name : String) (x : ByteArray) (w : World) : (FmtStop.operand name true 113 false (.iface 9 (.string x))).run Tryf.prog w = .ok (shape9, FmtStop.pack x.data.toList) w := by kernel_rfl
theorem op9_115 (name : String) (x : ByteArray) (w : World) : (FmtStop.operand name true 115 false (.iface 9 (.string x))).run Tryf.prog w = .ok (shape9, FmtStop.pack x.data.toList) w := by kernel_rfl
def shape3 : List UInt8 := [5, 3, 0, 0, 0, 0, 0, 0, 0, 105, 110, 116]
theorem op3_100 (name : String) (x : Int) (w : World) : (FmtStop.operand name true 100 false (.iface 3 (.int .i64 x))).run Tryf.prog w = .ok (shape3, Go.Extern.Stop.digits 8 (x % 2 ^ 64).toNat) w := by kernel_rfl
def shape21 : List UInt8 := [4, 5, 0, 0, 0, 0, 0, 0, 0, 105, 110, 116, 51, 50]
theorem op21_100 (name : String) (x : Int) (w : World) : (FmtStop.operand name true 100 false (.iface 21 (.int .i32 x))).run Tryf.prog w = .ok (shape21, Go.Extern.Stop.digits 8 (x % 2 ^ 64).toNat) w := by kernel_rfl
theorem ptr42 (w : World) : (FmtStop.ptrTo "errors.errorString").run Tryf.prog w = .ok 42 w := by kernel_rfl
theorem elem42 (w : World) : (elemOf 42).run Tryf.prog w = .ok 44 w := by kernel_rfl
theorem isError42 (w : World) : (FmtDoors.textMethod 42 "Error").run Tryf.prog w = .ok true w := by kernel_rfl
theorem ptr40 (w : World) : (FmtStop.ptrTo "fmt.wrapError").run Tryf.prog w = .ok 40 w := by kernel_rfl
theorem elem40 (w : World) : (elemOf 40).run Tryf.prog w = .ok 62 w := by kernel_rfl
theorem opPlain42 (name : String) (a : Addr) (s : ByteArray) (w : World) (hc : w.cell? a = some (.string s)) :
    (FmtStop.operand name true 119 false (.iface 42 (.pointer (some a)))).run Tryf.prog w = .ok (14 :: FmtStop.pack Tryf.t42.str.toUTF8.data.toList, s.data.toList) w := by
  have h1 : (typeStr 42).run Tryf.prog w = .ok Tryf.t42.str w := by kernel_rfl
  have d2 : Tryf.t42.desc = .pointer 44 := rfl
  have d3 : Tryf.t44.desc = .named "errors.errorString" 43 := rfl
  simp [FmtStop.operand, h1, d2, d3, run_load, hc]

section
attribute [local go_sem] call15 guardF fmtAr fmtBr fmtCr fmtDr fmtEr op9_113 op9_115 op3_100 op21_100 ptr42 elem42 isError42 ptr40 elem40

/-- An error of errors.New's make: a new block with its text. -/
structure NewErr (w w' : World) (b : Nat) : Prop where
  lo : w.heap.size ≤ b
  hi : b < w'.heap.size
  text : ∃ s, w'.cell? ⟨b, 0, none⟩ = some (.string s)
  below : Below w.heap.size w w'

theorem errorfA (F : Interp) (x : ByteArray) (blk : Nat) (w : World) (hF : F.answers w.tape) (hc0 : w.cell? ⟨blk, 0, none⟩ = some (.iface 9 (.string x))) :
    Calls Tryf.prog 12 #[.string ⟨#[37, 113, 32, 105, 115, 32, 110, 111, 116, 32, 97, 32, 100, 101, 99, 105, 109, 97, 108]⟩, .slice (some ⟨blk, 0, none⟩) 1 1] w fun e w' => ∃ b, e = .returned (.iface 42 (.pointer (some ⟨b, 0, none⟩))) ∧ NewErr w w' b := by
  have hF' := answers_open hF
  go_enter Tryf.func12, Tryf.ntmps12
  go_wp2
  go_ret
  exact ⟨_, rfl, ⟨Nat.le_refl _, by simp, ⟨_, by simp [go_sem]; rfl⟩, by go_grown⟩⟩
theorem errorfB (F : Interp) (x : ByteArray) (n : Int) (blk : Nat) (w : World) (hF : F.answers w.tape) (hc0 : w.cell? ⟨blk, 0, none⟩ = some (.iface 9 (.string x))) (hc1 : w.cell? ⟨blk, 1, none⟩ = some (.iface 3 (.int .i64 n))) :
    Calls Tryf.prog 12 #[.string ⟨#[37, 113, 32, 104, 97, 115, 32, 109, 111, 114, 101, 32, 116, 104, 97, 110, 32, 37, 100, 32, 100, 105, 103, 105, 116, 115]⟩, .slice (some ⟨blk, 0, none⟩) 2 2] w fun e w' => ∃ b, e = .returned (.iface 42 (.pointer (some ⟨b, 0, none⟩))) ∧ NewErr w w' b := by
  have hF' := answers_open hF
  go_enter Tryf.func12, Tryf.ntmps12
  go_wp2
  go_ret
  exact ⟨_, rfl, ⟨Nat.le_refl _, by simp, ⟨_, by simp [go_sem]; rfl⟩, by go_grown⟩⟩
theorem errorfC (F : Interp) (x : ByteArray) (n : Int) (blk : Nat) (w : World) (hF : F.answers w.tape) (hc0 : w.cell? ⟨blk, 0, none⟩ = some (.iface 9 (.string x))) (hc1 : w.cell? ⟨blk, 1, none⟩ = some (.iface 21 (.int .i32 n))) :
    Calls Tryf.prog 12 #[.string ⟨#[37, 113, 32, 104, 97, 115, 32, 109, 111, 114, 101, 32, 116, 104, 97, 110, 32, 37, 100, 32, 100, 101, 99, 105, 109, 97, 108, 115]⟩, .slice (some ⟨blk, 0, none⟩) 2 2] w fun e w' => ∃ b, e = .returned (.iface 42 (.pointer (some ⟨b, 0, none⟩))) ∧ NewErr w w' b := by
  have hF' := answers_open hF
  go_enter Tryf.func12, Tryf.ntmps12
  go_wp2
  go_ret
  exact ⟨_, rfl, ⟨Nat.le_refl _, by simp, ⟨_, by simp [go_sem]; rfl⟩, by go_grown⟩⟩
theorem errorfE (F : Interp) (x : ByteArray) (blk : Nat) (w : World) (hF : F.answers w.tape) (hc0 : w.cell? ⟨blk, 0, none⟩ = some (.iface 9 (.string x))) :
    Calls Tryf.prog 12 #[.string ⟨#[113, 117, 97, 110, 116, 105, 116, 121, 32, 37, 115, 44, 32, 119, 97, 110, 116, 32, 97, 32, 112, 111, 115, 105, 116, 105, 118, 101, 32, 110, 117, 109, 98, 101, 114, 32, 111, 102, 32, 115, 104, 97, 114, 101, 115]⟩, .slice (some ⟨blk, 0, none⟩) 1 1] w fun e w' => ∃ b, e = .returned (.iface 42 (.pointer (some ⟨b, 0, none⟩))) ∧ NewErr w w' b := by
  have hF' := answers_open hF
  go_enter Tryf.func12, Tryf.ntmps12
  go_wp2
  go_ret
  exact ⟨_, rfl, ⟨Nat.le_refl _, by simp, ⟨_, by simp [go_sem]; rfl⟩, by go_grown⟩⟩
theorem errorfD (F : Interp) (a : Addr) (s : ByteArray) (blk : Nat) (w : World) (hF : F.answers w.tape) (hc0 : w.cell? ⟨blk, 0, none⟩ = some (.iface 42 (.pointer (some a)))) (hs : w.cell? a = some (.string s)) :
    Calls Tryf.prog 12 #[.string ⟨#[119, 97, 110, 116, 32, 97, 32, 119, 104, 111, 108, 101, 32, 110, 117, 109, 98, 101, 114, 32, 111, 102, 32, 115, 104, 97, 114, 101, 115, 58, 32, 37, 119]⟩, .slice (some ⟨blk, 0, none⟩) 1 1] w fun e w' => ∃ b, e = .returned (.iface 40 (.pointer (some ⟨b, 0, none⟩))) ∧ Below w.heap.size w w' := by
  have hF' := answers_open hF
  have hop := opPlain42 "fmt.errorf" a s w hs
  go_enter Tryf.func12, Tryf.ntmps12
  go_wp2
  go_ret
  exact ⟨_, rfl, by go_grown⟩
end
end Go.Proofs.Qxb6628871aFmt
