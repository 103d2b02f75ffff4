/- The octets of the indicators: 'bit', 'octet', 'octets' walked. -/
import Derived.Test.Qxb6628779aRows
import Derived.WalkKit
import Derived.WalkSpells
import Derived.Below
import Derived.Handy
import Derived.BigQuiet
import Derived.Deep.RegionHeld3
namespace Go.Proofs.Qxb6628779a
open Go.RowKit

def bitv (b : Bool) : Int := if b then 1 else 0
/-- The two fixed octets and the optional one, in the form in which the walk leaves them. -/
def oct0 (c0 c1 c2 c3 : Int) : Int :=
  bits .or .u8 (bits .or .u8 (bits .or .u8 (bits .and .u8 c0 3) (IntKind.u8.wrap (bits .and .u8 c1 3 * 4))) (IntKind.u8.wrap (bits .and .u8 c2 3 * 16))) (IntKind.u8.wrap (bits .and .u8 c3 3 * 64))
def oct1 (b4 b5 b6 b7 b8 b9 : Bool) (c10 : Int) : Int :=
  bits .or .u8 (bits .or .u8 (bits .or .u8 (bits .or .u8 (bits .or .u8 (bits .or .u8 (bitv b4) (IntKind.u8.wrap (bitv b5 * 2))) (IntKind.u8.wrap (bitv b6 * 4))) (IntKind.u8.wrap (bitv b7 * 8))) (IntKind.u8.wrap (bitv b8 * 16))) (IntKind.u8.wrap (bitv b9 * 32))) (IntKind.u8.wrap (bits .and .u8 c10 3 * 64))
def octO (o0 o1 o2 o3 : Bool) : Int :=
  bits .or .u8 (bits .or .u8 (bits .or .u8 (bitv o0) (bitv o1 * 2 % 256)) (bitv o2 * 4 % 256)) (bitv o3 * 8 % 256)

theorem bit_any (b : Bool) (w : World) : Calls Try.prog 18 #[.bool b] w fun e w' => e = .returned (.int .u8 (bitv b)) ∧ w' = w := by
  cases b
  · go_enter Try.func18, Try.ntmps18
    go_wp2
    go_ret
    exact ⟨rfl, rfl⟩
  · go_enter Try.func18, Try.ntmps18
    go_wp2
    go_ret
    exact ⟨rfl, rfl⟩

theorem octet_any (o0 o1 o2 o3 : Bool) (w : World) : Calls Try.prog 17 #[.agg #[.bool o0, .bool o1, .bool o2, .bool o3]] w fun e w' =>
    e = .returned (.int .u8 (octO o0 o1 o2 o3)) ∧ ∃ A n, w' = (w.alloc (.cells A 49)).drewN n := by
  go_enter Try.func17, Try.ntmps17
  go_wp2
  go_quiet ((go_at_call 18; exact Calls.quiet_of_same (bit_any _ _)))
  go_wp2
  go_ret
  exact ⟨rfl, _, _, rfl⟩

set_option maxHeartbeats 1000000 in
theorem octets_any (c0 c1 c2 c3 : Int) (b4 b5 b6 b7 b8 b9 : Bool) (c10 : Int) (w : World) :
    Calls Try.prog 16 #[.agg #[.int .u8 c0, .int .u8 c1, .int .u8 c2, .int .u8 c3, .bool b4, .bool b5, .bool b6, .bool b7, .bool b8, .bool b9, .int .u8 c10]] w fun e w' =>
      e = .returned (.slice (some ⟨w.heap.size + 1, 0, none⟩) 2 2) ∧ ∃ A, w' = ((w.alloc (.cells A 48)).alloc (.cells #[.int .u8 (oct0 c0 c1 c2 c3), .int .u8 (oct1 b4 b5 b6 b7 b8 b9 c10)] 5)).drew := by
  go_enter Try.func16, Try.ntmps16
  go_wp2
  go_region_held3 (fun w' => w'.cell? ⟨w.heap.size, 0, none⟩ = some (.int .u8 c0) ∧ w'.cell? ⟨w.heap.size, 1, none⟩ = some (.int .u8 c1) ∧ w'.cell? ⟨w.heap.size, 2, none⟩ = some (.int .u8 c2) ∧ w'.cell? ⟨w.heap.size, 3, none⟩ = some (.int .u8 c3) ∧ w'.cell? ⟨w.heap.size, 4, none⟩ = some (.bool b4) ∧ w'.cell? ⟨w.heap.size, 5, none⟩ = some (.bool b5) ∧ w'.cell? ⟨w.heap.size, 6, none⟩ = some (.bool b6) ∧ w'.cell? ⟨w.heap.size, 7, none⟩ = some (.bool b7) ∧ w'.cell? ⟨w.heap.size, 8, none⟩ = some (.bool b8) ∧ w'.cell? ⟨w.heap.size, 9, none⟩ = some (.bool b9) ∧ w'.cell? ⟨w.heap.size, 10, none⟩ = some (.int .u8 c10)) (simp [go_sem, World.cell?_alloc_past])
    (first
      | (go_at_call 18; refine (bit_any _ _).mono ?_; rintro e w' ⟨rfl, rfl⟩))
  go_wp2
  go_ret
  exact ⟨rfl, _, rfl⟩
end Go.Proofs.Qxb6628779a
