/- 'acm' and 'wellFormed' walked. -/
import Derived.Test.Qxb6628779aNew
namespace Go.Proofs.Qxb6628779a
open Go.RowKit

theorem eql26z (o0 o1 o2 o3 : Bool) (w : World) : (binOp .eql 26 (.agg #[.bool o0, .bool o1, .bool o2, .bool o3]) (.agg #[.bool false, .bool false, .bool false, .bool false])).run Try.prog w = .ok (.bool (zeroO o0 o1 o2 o3)) w := by
  cases o0 <;> cases o1 <;> cases o2 <;> cases o3 <;> kernel_rfl

theorem FixAt.setCell {w : World} {B fb : Nat} {x0 x1 : Int} (h : FixAt w B fb x0 x1) (b o : Nat) (v : Value) (hn : b ≠ fb) : FixAt (w.setCell ⟨b, o, none⟩ v) B fb x0 x1 :=
  ⟨h.lo, by rw [World.size_setCell]; exact h.hi, by rw [World.cell?_setCell_far _ _ _ _ hn]; exact h.c0, by rw [World.cell?_setCell_far _ _ _ _ hn]; exact h.c1⟩
theorem OptAt.setCell {w : World} {B pb vb : Nat} {x : Int} (h : OptAt w B pb vb x) (b o : Nat) (v : Value) (hn : b ≠ pb) (hm : b ≠ vb) : OptAt (w.setCell ⟨b, o, none⟩ v) B pb vb x :=
  ⟨h.plo, by rw [World.size_setCell]; exact h.phi, h.vlo, by rw [World.size_setCell]; exact h.vhi, by rw [World.cell?_setCell_far _ _ _ _ hn]; exact h.p0, by rw [World.cell?_setCell_far _ _ _ _ hn]; exact h.p1, by rw [World.cell?_setCell_far _ _ _ _ hm]; exact h.v0⟩
theorem FixAt.lower {w : World} {B B' fb : Nat} {x0 x1 : Int} (h : FixAt w B fb x0 x1) (hB : B' ≤ B) : FixAt w B' fb x0 x1 := ⟨Nat.le_trans hB h.lo, h.hi, h.c0, h.c1⟩
theorem OptAt.lower {w : World} {B B' pb vb : Nat} {x : Int} (h : OptAt w B pb vb x) (hB : B' ≤ B) : OptAt w B' pb vb x := ⟨Nat.le_trans hB h.plo, h.phi, Nat.le_trans hB h.vlo, h.vhi, h.p0, h.p1, h.v0⟩

set_option maxHeartbeats 400000 in
theorem acm_zero (cic c0 c1 c2 c3 : Int) (b4 b5 b6 b7 b8 b9 : Bool) (c10 : Int) (o0 o1 o2 o3 : Bool) (w : World) (hz : zeroO o0 o1 o2 o3 = true) :
    Calls Try.prog 5 #[.int .u16 cic, .agg #[.int .u8 c0, .int .u8 c1, .int .u8 c2, .int .u8 c3, .bool b4, .bool b5, .bool b6, .bool b7, .bool b8, .bool b9, .int .u8 c10], .agg #[.bool o0, .bool o1, .bool o2, .bool o3]] w fun e w' =>
      ∃ fb, e = .returned (msgZ cic fb) ∧ FixAt w' w.heap.size fb (oct0 c0 c1 c2 c3) (oct1 b4 b5 b6 b7 b8 b9 c10) ∧ Below w.heap.size w w' := by
  go_enter Try.func5, Try.ntmps5
  go_wp2_with fail
  refine (newACM_zero cic c0 c1 c2 c3 b4 b5 b6 b7 b8 b9 c10 o0 o1 o2 o3 _ hz).mono ?_
  rintro e w1 ⟨fb, rfl, hf, hb⟩
  obtain ⟨hc, hfr⟩ := bcell hb
  have hs := hb.size
  simp at hs
  have hlo := hf.lo
  simp at hlo
  go_wp2
  refine bodyPost_ret (v := msgZ cic fb) (by simp [results, Try.results5, go_sem, hc]) rfl ⟨_, rfl, ?_, ?_⟩
  · exact ((((((hf.lower (B' := w.heap.size) (by simp; omega)).setCell _ _ _ (by omega)).setCell _ _ _ (by omega)).setCell _ _ _ (by omega)).setCell _ _ _ (by omega)).setCell _ _ _ (by omega))
  · refine Below.setCell (Below.setCell (Below.setCell (Below.setCell (Below.setCell (Below.trans ?_ (hb.mono (by simp; omega))) (by simp; omega) _) (by simp; omega) _) (by simp; omega) _) (by simp; omega) _) (by simp; omega) _
    go_grown

set_option maxHeartbeats 400000 in
theorem acm_non (cic c0 c1 c2 c3 : Int) (b4 b5 b6 b7 b8 b9 : Bool) (c10 : Int) (o0 o1 o2 o3 : Bool) (w : World) (hz : zeroO o0 o1 o2 o3 = false) :
    Calls Try.prog 5 #[.int .u16 cic, .agg #[.int .u8 c0, .int .u8 c1, .int .u8 c2, .int .u8 c3, .bool b4, .bool b5, .bool b6, .bool b7, .bool b8, .bool b9, .int .u8 c10], .agg #[.bool o0, .bool o1, .bool o2, .bool o3]] w fun e w' =>
      ∃ fb pb vb, e = .returned (msgN cic fb pb) ∧ FixAt w' w.heap.size fb (oct0 c0 c1 c2 c3) (oct1 b4 b5 b6 b7 b8 b9 c10) ∧ OptAt w' w.heap.size pb vb (octO o0 o1 o2 o3) ∧ Below w.heap.size w w' := by
  go_enter Try.func5, Try.ntmps5
  go_wp2_with fail
  refine (newACM_non cic c0 c1 c2 c3 b4 b5 b6 b7 b8 b9 c10 o0 o1 o2 o3 _ hz).mono ?_
  rintro e w1 ⟨fb, pb, vb, rfl, hf, ho, hb⟩
  obtain ⟨hc, hfr⟩ := bcell hb
  have hs := hb.size
  simp at hs
  have hlo := hf.lo
  have hplo := ho.plo
  have hvlo := ho.vlo
  simp at hlo hplo hvlo
  go_wp2
  refine bodyPost_ret (v := msgN cic fb pb) (by simp [results, Try.results5, go_sem, hc]) rfl ⟨_, _, vb, rfl, ?_, ?_, ?_⟩
  · exact ((((((hf.lower (B' := w.heap.size) (by simp; omega)).setCell _ _ _ (by omega)).setCell _ _ _ (by omega)).setCell _ _ _ (by omega)).setCell _ _ _ (by omega)).setCell _ _ _ (by omega))
  · exact ((((((ho.lower (B' := w.heap.size) (by simp; omega)).setCell _ _ _ (by omega) (by omega)).setCell _ _ _ (by omega) (by omega)).setCell _ _ _ (by omega) (by omega)).setCell _ _ _ (by omega) (by omega)).setCell _ _ _ (by omega) (by omega))
  · refine Below.setCell (Below.setCell (Below.setCell (Below.setCell (Below.setCell (Below.trans ?_ (hb.mono (by simp; omega))) (by simp; omega) _) (by simp; omega) _) (by simp; omega) _) (by simp; omega) _) (by simp; omega) _
    go_grown

set_option maxHeartbeats 400000 in
theorem wf_zero (cic : Int) (fb : Nat) (o0 o1 o2 o3 : Bool) (w : World) (hz : zeroO o0 o1 o2 o3 = true) :
    Calls Try.prog 6 #[msgZ cic fb, .int .u16 cic, .agg #[.bool o0, .bool o1, .bool o2, .bool o3]] w fun e w' =>
      e = .returned (.bool true) ∧ Below w.heap.size w w' := by
  have he := eql26z o0 o1 o2 o3
  go_enter Try.func6, Try.ntmps6
  go_wp2
  go_ret
  exact ⟨rfl, by go_grown⟩
set_option maxHeartbeats 400000 in
theorem wf_non (cic x : Int) (B fb pb vb : Nat) (o0 o1 o2 o3 : Bool) (w : World) (hz : zeroO o0 o1 o2 o3 = false) (ho : OptAt w B pb vb x) (hx : (bits .and .u8 x 240 == 0) = true) (hx0 : (x != 0) = true) :
    Calls Try.prog 6 #[msgN cic fb pb, .int .u16 cic, .agg #[.bool o0, .bool o1, .bool o2, .bool o3]] w fun e w' =>
      e = .returned (.bool true) ∧ Below w.heap.size w w' := by
  have he := eql26z o0 o1 o2 o3
  obtain ⟨_, hp, _, hv, hp0, hp1, hv0⟩ := ho
  have hv1 : vb < w.heap.size + 1 := by omega
  have hv2 : vb < w.heap.size + 1 + 1 := by omega
  have hpb1 : pb < w.heap.size + 1 := by omega
  go_enter Try.func6, Try.ntmps6
  go_wp2
  go_ret
  exact ⟨rfl, by go_grown⟩
end Go.Proofs.Qxb6628779a
