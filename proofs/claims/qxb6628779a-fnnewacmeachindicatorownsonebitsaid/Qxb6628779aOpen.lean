/- The indicators' structs, opened. -/
import Derived.Test.Qxb6628779aBits
import Derived.ProofKit
import Derived.OpenShut
import Derived.ShutString
import Derived.ChangeOld
import Derived.Lib.SmallJoins
namespace Go.Proofs.Qxb6628779a
open Go.ChangeShapes Go.WideShapes Go.ChangeAt Go.RowKit

theorem Try.cells24 : Try.prog.cellsOf 24 = 11 := by kernel_rfl
theorem Try.cells26 : Try.prog.cellsOf 26 = 4 := by kernel_rfl
theorem Try.cells5 : Try.prog.cellsOf 5 = 1 := by kernel_rfl
theorem Try.cells4 : Try.prog.cellsOf 4 = 1 := by kernel_rfl

theorem byt_of_wf {x : Int} (h : (Lit.int .u8 x).wf = true) : Byt x := by
  simp [Lit.wf, IntKind.min, IntKind.max, IntKind.signed, IntKind.bits] at h
  exact ⟨by omega, by omega⟩

theorem list11 {α : Type} {l : List α} (h : l.length = 11) : ∃ c0 c1 c2 c3 c4 c5 c6 c7 c8 c9 c10, l = [c0, c1, c2, c3, c4, c5, c6, c7, c8, c9, c10] := by
  match l, h with
  | [c0, c1, c2, c3, c4, c5, c6, c7, c8, c9, c10], _ => exact ⟨c0, c1, c2, c3, c4, c5, c6, c7, c8, c9, c10, rfl⟩
theorem list4 {α : Type} {l : List α} (h : l.length = 4) : ∃ c0 c1 c2 c3, l = [c0, c1, c2, c3] := by
  match l, h with
  | [c0, c1, c2, c3], _ => exact ⟨c0, c1, c2, c3, rfl⟩

section
variable {H : Type} {enc : TypeId × Value → H} {w : World} {base : Nat} {spare : Nat → Bool} {held : Bool}

theorem open_bci {r : Reach} {b0 : Nat} {v : Value} {d : DataW H} {p : List MemPlace} (hv : Value.okWide Try.prog w r b0 24 v) (h : DataW.Trod enc Try.prog w base spare held 24 v d p) :
    ∃ c0 c1 c2 c3 b4 b5 b6 b7 b8 b9 c10, v = .agg #[.int .u8 c0, .int .u8 c1, .int .u8 c2, .int .u8 c3, .bool b4, .bool b5, .bool b6, .bool b7, .bool b8, .bool b9, .int .u8 c10] ∧ Byt c0 ∧ Byt c1 ∧ Byt c2 ∧ Byt c3 ∧ Byt c10 := by
  obtain ⟨cs, rfl, hsz⟩ := okWide_struct Try.underlying24 hv
  rw [Try.cells24] at hsz
  obtain ⟨l⟩ := cs
  obtain ⟨a0, a1, a2, a3, a4, a5, a6, a7, a8, a9, a10, rfl⟩ := list11 (l := l) hsz
  obtain ⟨fuel, hf⟩ := h
  obtain ⟨xs, n, _, _, _, hlen, hx⟩ := DataW.trod_struct Try.underlying24 hf
  obtain ⟨y0, y1, y2, y3, y4, y5, y6, y7, y8, y9, y10, rfl⟩ := list11 (l := xs) hlen
  have q0 := hx 0 _ rfl
  have q1 := hx 1 _ rfl
  have q2 := hx 2 _ rfl
  have q3 := hx 3 _ rfl
  have q4 := hx 4 _ rfl
  have q5 := hx 5 _ rfl
  have q6 := hx 6 _ rfl
  have q7 := hx 7 _ rfl
  have q8 := hx 8 _ rfl
  have q9 := hx 9 _ rfl
  have q10 := hx 10 _ rfl
  simp [Value.cells, Try.cells5] at q0 q1 q2 q3 q10
  simp [Value.cells, Try.cells4] at q4 q5 q6 q7 q8 q9
  obtain ⟨c0, e0, _, g0⟩ := DataW.trod_int Try.underlying5 q0
  obtain ⟨c1, e1, _, g1⟩ := DataW.trod_int Try.underlying5 q1
  obtain ⟨c2, e2, _, g2⟩ := DataW.trod_int Try.underlying5 q2
  obtain ⟨c3, e3, _, g3⟩ := DataW.trod_int Try.underlying5 q3
  obtain ⟨c10, e10, _, g10⟩ := DataW.trod_int Try.underlying5 q10
  obtain ⟨b4, e4, _⟩ := DataW.trod_bool Try.underlying4 q4
  obtain ⟨b5, e5, _⟩ := DataW.trod_bool Try.underlying4 q5
  obtain ⟨b6, e6, _⟩ := DataW.trod_bool Try.underlying4 q6
  obtain ⟨b7, e7, _⟩ := DataW.trod_bool Try.underlying4 q7
  obtain ⟨b8, e8, _⟩ := DataW.trod_bool Try.underlying4 q8
  obtain ⟨b9, e9, _⟩ := DataW.trod_bool Try.underlying4 q9
  simp at e0 e1 e2 e3 e4 e5 e6 e7 e8 e9 e10
  subst e0 e1 e2 e3 e4 e5 e6 e7 e8 e9 e10
  exact ⟨c0, c1, c2, c3, b4, b5, b6, b7, b8, b9, c10, rfl, byt_of_wf g0, byt_of_wf g1, byt_of_wf g2, byt_of_wf g3, byt_of_wf g10⟩

theorem open_obci {r : Reach} {b0 : Nat} {v : Value} {d : DataW H} {p : List MemPlace} (hv : Value.okWide Try.prog w r b0 26 v) (h : DataW.Trod enc Try.prog w base spare held 26 v d p) :
    ∃ o0 o1 o2 o3, v = .agg #[.bool o0, .bool o1, .bool o2, .bool o3] := by
  obtain ⟨cs, rfl, hsz⟩ := okWide_struct Try.underlying26 hv
  rw [Try.cells26] at hsz
  obtain ⟨l⟩ := cs
  obtain ⟨a0, a1, a2, a3, rfl⟩ := list4 (l := l) hsz
  obtain ⟨fuel, hf⟩ := h
  obtain ⟨xs, n, _, _, _, hlen, hx⟩ := DataW.trod_struct Try.underlying26 hf
  obtain ⟨y0, y1, y2, y3, rfl⟩ := list4 (l := xs) hlen
  have q0 := hx 0 _ rfl
  have q1 := hx 1 _ rfl
  have q2 := hx 2 _ rfl
  have q3 := hx 3 _ rfl
  simp [Value.cells, Try.cells4] at q0 q1 q2 q3
  obtain ⟨o0, e0, _⟩ := DataW.trod_bool Try.underlying4 q0
  obtain ⟨o1, e1, _⟩ := DataW.trod_bool Try.underlying4 q1
  obtain ⟨o2, e2, _⟩ := DataW.trod_bool Try.underlying4 q2
  obtain ⟨o3, e3, _⟩ := DataW.trod_bool Try.underlying4 q3
  simp at e0 e1 e2 e3
  subst e0 e1 e2 e3
  exact ⟨o0, o1, o2, o3, rfl⟩
end
end Go.Proofs.Qxb6628779a
