/- The contracts of 'acm', 'wellFormed', 'sameMsg' whatever the optional indicators are. -/
import Derived.Test.Qxb6628779aSame
import Derived.Test.Qxb6628779aBits
namespace Go.Proofs.Qxb6628779a
open Go.RowKit

abbrev msg (cic : Int) (fb : Nat) (oa : Option Addr) (n : Nat) : Value := .agg #[.int .u16 cic, .int .u8 6, .slice (some ⟨fb, 0, none⟩) 2 2, .slice none 0 0, .slice oa n n]
/-- The optional part: nil, or one parameter of one octet. -/
def OptIs (w : World) (B : Nat) (oa : Option Addr) (n : Nat) (z : Bool) (x : Int) : Prop :=
  (z = true ∧ oa = none ∧ n = 0) ∨ (z = false ∧ ∃ pb vb, oa = some ⟨pb, 0, none⟩ ∧ n = 1 ∧ OptAt w B pb vb x)
theorem OptIs.below {w w' : World} {B n : Nat} {oa : Option Addr} {z : Bool} {x : Int} (h : OptIs w B oa n z x) (hb : Below w.heap.size w w') : OptIs w' B oa n z x := by
  rcases h with h | ⟨hz, pb, vb, ho, hn, hx⟩
  · exact .inl h
  · exact .inr ⟨hz, pb, vb, ho, hn, hx.below hb⟩

theorem acm_any (cic c0 c1 c2 c3 : Int) (b4 b5 b6 b7 b8 b9 : Bool) (c10 : Int) (o0 o1 o2 o3 : Bool) (w : World) :
    Calls Try.prog 5 #[.int .u16 cic, .agg #[.int .u8 c0, .int .u8 c1, .int .u8 c2, .int .u8 c3, .bool b4, .bool b5, .bool b6, .bool b7, .bool b8, .bool b9, .int .u8 c10], .agg #[.bool o0, .bool o1, .bool o2, .bool o3]] w fun e w' =>
      ∃ fb oa n, e = .returned (msg cic fb oa n) ∧ FixAt w' w.heap.size fb (oct0 c0 c1 c2 c3) (oct1 b4 b5 b6 b7 b8 b9 c10) ∧ OptIs w' w.heap.size oa n (zeroO o0 o1 o2 o3) (octO o0 o1 o2 o3) ∧ Below w.heap.size w w' := by
  cases hz : zeroO o0 o1 o2 o3
  · refine (acm_non cic c0 c1 c2 c3 b4 b5 b6 b7 b8 b9 c10 o0 o1 o2 o3 w hz).mono ?_
    rintro e w1 ⟨fb, pb, vb, rfl, hf, ho, hb⟩
    exact ⟨fb, some ⟨pb, 0, none⟩, 1, rfl, hf, .inr ⟨rfl, pb, vb, rfl, rfl, ho⟩, hb⟩
  · refine (acm_zero cic c0 c1 c2 c3 b4 b5 b6 b7 b8 b9 c10 o0 o1 o2 o3 w hz).mono ?_
    rintro e w1 ⟨fb, rfl, hf, hb⟩
    exact ⟨fb, none, 0, rfl, hf, .inl ⟨rfl, rfl, rfl⟩, hb⟩

theorem wf_any (cic : Int) (B fb : Nat) (oa : Option Addr) (n : Nat) (o0 o1 o2 o3 : Bool) (w : World) (ho : OptIs w B oa n (zeroO o0 o1 o2 o3) (octO o0 o1 o2 o3)) :
    Calls Try.prog 6 #[msg cic fb oa n, .int .u16 cic, .agg #[.bool o0, .bool o1, .bool o2, .bool o3]] w fun e w' =>
      e = .returned (.bool true) ∧ Below w.heap.size w w' := by
  rcases ho with ⟨hz, rfl, rfl⟩ | ⟨hz, pb, vb, rfl, rfl, hx⟩
  · exact wf_zero cic fb o0 o1 o2 o3 w hz
  · exact wf_non cic _ B fb pb vb o0 o1 o2 o3 w hz hx (octO_low ..) (octO_ne _ _ _ _ hz)

theorem same_any (cic : Int) (B C fa fb : Nat) (oa ob : Option Addr) (n m : Nat) (x0 x1 y0 y1 x y : Int) (z z' : Bool) (w : World) (ha : FixAt w B fa x0 x1) (hb : FixAt w C fb y0 y1) (hoa : OptIs w B oa n z x) (hob : OptIs w C ob m z' y)
    (s : Bool) (hs : s = ((x0 == y0 && x1 == y1) && (z == z' && (z || x == y)))) :
    Calls Try.prog 7 #[msg cic fa oa n, msg cic fb ob m] w fun e w' => e = .returned (.bool s) ∧ Below w.heap.size w w' := by
  cases hr : (x0 == y0 && x1 == y1)
  · obtain rfl : s = false := by rw [hs, hr]; rfl
    exact same_fixNo cic B C fa fb x0 x1 y0 y1 _ _ w ha hb false hr.symm rfl
  · rw [hr, Bool.true_and] at hs
    rcases hoa with ⟨rfl, rfl, rfl⟩ | ⟨rfl, pa, va, rfl, rfl, hx⟩
    · rcases hob with ⟨rfl, rfl, rfl⟩ | ⟨rfl, pb, vb, rfl, rfl, hy⟩
      · subst hs
        exact same_zz cic B C fa fb x0 x1 y0 y1 w ha hb hr.symm
      · subst hs
        exact same_zn cic B C fa fb pb x0 x1 y0 y1 w ha hb hr.symm
    · rcases hob with ⟨rfl, rfl, rfl⟩ | ⟨rfl, pb, vb, rfl, rfl, hy⟩
      · subst hs
        exact same_nz cic B C fa fb pa x0 x1 y0 y1 w ha hb hr.symm
      · exact same_nn cic B C fa fb pa pb va vb x0 x1 y0 y1 x y w ha hb hr.symm hx hy s (by rw [hs]; rfl)

theorem opt_same (o0 o1 o2 o3 p0 p1 p2 p3 : Bool) : (zeroO o0 o1 o2 o3 == zeroO p0 p1 p2 p3 && (zeroO o0 o1 o2 o3 || octO o0 o1 o2 o3 == octO p0 p1 p2 p3)) = (o0 == p0 && o1 == p1 && o2 == p2 && o3 == p3) := by
  rw [octO_same]
  cases o0 <;> cases o1 <;> cases o2 <;> cases o3 <;> cases p0 <;> cases p1 <;> cases p2 <;> cases p3 <;> decide
end Go.Proofs.Qxb6628779a
