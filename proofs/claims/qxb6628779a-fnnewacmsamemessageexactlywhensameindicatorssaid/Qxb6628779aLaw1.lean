import Derived.Test.Qxb6628779aAny
namespace Go.Proofs.Qxb6628779a
open Go.RowKit
set_option linter.unusedSimpArgs false
/-- What '==' gives on the optional indicators. -/
def oeq (a0 a1 a2 a3 o0 o1 o2 o3 : Bool) : Bool := a0 == o0 && a1 == o1 && a2 == o2 && a3 == o3
theorem eql26 (a0 a1 a2 a3 o0 o1 o2 o3 : Bool) (w : World) : (binOp .eql 26 (.agg #[.bool a0, .bool a1, .bool a2, .bool a3]) (.agg #[.bool o0, .bool o1, .bool o2, .bool o3])).run Try.prog w = .ok (.bool (oeq a0 a1 a2 a3 o0 o1 o2 o3)) w := by
  cases a0 <;> cases a1 <;> cases a2 <;> cases a3 <;> cases o0 <;> cases o1 <;> cases o2 <;> cases o3 <;> kernel_rfl
theorem keepS {w4 W w' : World} (h : (∀ b o, b < w4.heap.size → W.cell? ⟨b, o, none⟩ = w4.cell? ⟨b, o, none⟩) ∧ Below w4.heap.size w4 W) (hb : Below W.heap.size W w') :
    (∀ b o, b < w4.heap.size → w'.cell? ⟨b, o, none⟩ = w4.cell? ⟨b, o, none⟩) ∧ Below w4.heap.size w4 w' :=
  ⟨fun b o hl => by rw [hb.cell (p := ⟨b, o, none⟩) (Nat.lt_of_lt_of_le hl h.2.size)]; exact h.1 b o hl, h.2.trans (hb.mono h.2.size)⟩
set_option maxRecDepth 100000 in
set_option maxHeartbeats 1000000 in
theorem law1 (cic c0 c1 c2 c3 : Int) (b4 b5 b6 b7 b8 b9 : Bool) (c10 : Int) (o0 o1 o2 o3 : Bool) (d0 d1 d2 d3 : Int) (e4 e5 e6 e7 e8 e9 : Bool) (d10 : Int) (p0 p1 p2 p3 : Bool) (w : World) (g0 : Byt c0) (g1 : Byt c1) (g2 : Byt c2) (g3 : Byt c3) (g10 : Byt c10) (k0 : Byt d0) (k1 : Byt d1) (k2 : Byt d2) (k3 : Byt d3) (k10 : Byt d10) :
    Calls Try.prog 3 #[.int .u16 cic, .agg #[.int .u8 c0, .int .u8 c1, .int .u8 c2, .int .u8 c3, .bool b4, .bool b5, .bool b6, .bool b7, .bool b8, .bool b9, .int .u8 c10], .agg #[.bool o0, .bool o1, .bool o2, .bool o3], .agg #[.int .u8 d0, .int .u8 d1, .int .u8 d2, .int .u8 d3, .bool e4, .bool e5, .bool e6, .bool e7, .bool e8, .bool e9, .int .u8 d10], .agg #[.bool p0, .bool p1, .bool p2, .bool p3]] w fun e w' =>
      e = .returned (.bool true) ∧ Below w.heap.size w w' := by
  have he26 := eql26 o0 o1 o2 o3 p0 p1 p2 p3
  go_enter Try.func3, Try.ntmps3
  go_wp2_with fail
  refine (acm_any cic c0 c1 c2 c3 b4 b5 b6 b7 b8 b9 c10 o0 o1 o2 o3 _).mono ?_
  rintro e w1 ⟨fa, oa, n, rfl, hfa, hoa, hb1⟩
  obtain ⟨hc1, hfr1⟩ := bcell hb1
  have hs1 := hb1.size
  simp at hs1
  have z0 : w.heap.size < w1.heap.size := by omega
  have z1 : w.heap.size + 1 < w1.heap.size := by omega
  have z2 : w.heap.size + 1 + 1 < w1.heap.size := by omega
  have z3 : w.heap.size + 1 + 1 + 1 < w1.heap.size := by omega
  go_wp2_with fail
  refine (acm_any cic d0 d1 d2 d3 e4 e5 e6 e7 e8 e9 d10 p0 p1 p2 p3 _).mono ?_
  rintro e w2 ⟨fb, ob, m, rfl, hfb, hob, hb2⟩
  obtain ⟨hc2, hfr2⟩ := bcell hb2
  have hs2 := hb2.size
  simp at hs2
  have y0 : w.heap.size < w2.heap.size := by omega
  have y1 : w.heap.size + 1 < w2.heap.size := by omega
  have y2 : w.heap.size + 1 + 1 < w2.heap.size := by omega
  have y3 : w.heap.size + 1 + 1 + 1 < w2.heap.size := by omega
  have y4 : w1.heap.size < w2.heap.size := by omega
  have hfa2 := (hfa.below ((Below.refl _ _).alloc (Nat.le_refl _) _)).below hb2
  have hoa2 := (hoa.below ((Below.refl _ _).alloc (Nat.le_refl _) _)).below hb2
  go_wp2_with fail
  refine (wf_any cic _ fa oa n o0 o1 o2 o3 _ (hoa2.below ?_)).mono ?_
  · exact (Below.refl _ _).alloc (Nat.le_refl _) _
  rintro e w3 ⟨rfl, hb3⟩
  obtain ⟨hc3, hfr3⟩ := bcell hb3
  have hs3 := hb3.size
  simp at hs3
  have x0 : w.heap.size < w3.heap.size := by omega
  have x1 : w.heap.size + 1 < w3.heap.size := by omega
  have x2 : w.heap.size + 1 + 1 < w3.heap.size := by omega
  have x3 : w.heap.size + 1 + 1 + 1 < w3.heap.size := by omega
  have x4 : w1.heap.size < w3.heap.size := by omega
  have x5 : w2.heap.size < w3.heap.size := by omega
  go_wp2_with fail
  refine (wf_any cic _ fb ob m p0 p1 p2 p3 _ ((hob.below ?_).below hb3)).mono ?_
  · exact (Below.refl _ _).alloc (Nat.le_refl _) _
  rintro e w4 ⟨rfl, hb4⟩
  obtain ⟨hc4, hfr4⟩ := bcell hb4
  have hs4 := hb4.size
  have v0 : w.heap.size < w4.heap.size := by omega
  have v1 : w.heap.size + 1 < w4.heap.size := by omega
  have v2 : w.heap.size + 1 + 1 < w4.heap.size := by omega
  have v3 : w.heap.size + 1 + 1 + 1 < w4.heap.size := by omega
  have v4 : w1.heap.size < w4.heap.size := by omega
  have v5 : w2.heap.size < w4.heap.size := by omega
  go_wp2
  have hfa4 := ((hfa2.below ((Below.refl _ _).alloc (Nat.le_refl _) _)).below hb3).below hb4
  have hoa4 := ((hoa2.below ((Below.refl _ _).alloc (Nat.le_refl _) _)).below hb3).below hb4
  have hfb4 := ((hfb.below ((Below.refl _ _).alloc (Nat.le_refl _) _)).below hb3).below hb4
  have hob4 := ((hob.below ((Below.refl _ _).alloc (Nat.le_refl _) _)).below hb3).below hb4
  have HB : Below w.heap.size w w4 := by
    refine Below.trans (Below.trans (Below.alloc (Below.trans (Below.alloc (Below.trans ?_ (hb1.mono (by simp; omega))) (by omega) _) (hb2.mono (by simp; omega))) (by omega) _) (hb3.mono (by simp; omega))) (hb4.mono (by omega))
    go_grown
  obtain ⟨me, hme⟩ : ∃ me, me = mask c0 c1 c2 c3 b4 b5 b6 b7 b8 b9 c10 d0 d1 d2 d3 e4 e5 e6 e7 e8 e9 d10 := ⟨_, rfl⟩
  obtain ⟨s, hs⟩ : ∃ s, s = ((oct0 c0 c1 c2 c3 == oct0 d0 d1 d2 d3 && oct1 b4 b5 b6 b7 b8 b9 c10 == oct1 e4 e5 e6 e7 e8 e9 d10) && (zeroO o0 o1 o2 o3 == zeroO p0 p1 p2 p3 && (zeroO o0 o1 o2 o3 || octO o0 o1 o2 o3 == octO p0 p1 p2 p3))) := ⟨_, rfl⟩
  have hsm : s = (me && oeq o0 o1 o2 o3 p0 p1 p2 p3) := by
    rw [hs, opt_same, fix_same _ _ _ _ _ _ _ _ _ _ _ _ _ _ _ _ _ _ _ _ _ _ g0 g1 g2 g3 g10 k0 k1 k2 k3 k10, hme]; rfl
  have HS := show Hid _ from hs
  have HM := show Hid _ from hme
  clear hs hme hfr1 hfr2 hfr3 hfr4
  cases me
  · obtain rfl : s = false := hsm
    have h0 : (∀ b o, b < w4.heap.size → w4.drew.cell? ⟨b, o, none⟩ = w4.cell? ⟨b, o, none⟩) ∧ Below w4.heap.size w4 w4.drew := ⟨fun b o h => rfl, (Below.refl _ _).drew⟩
    refine wp_region_held_drew (S := fun w' => (∀ b o, b < w4.heap.size → w'.cell? ⟨b, o, none⟩ = w4.cell? ⟨b, o, none⟩) ∧ Below w4.heap.size w4 w') (by kernel_rfl) h0 (fun hHeld => ?_)
    refine wpAnyH_take (i := 0) (v := msg cic fa oa n) rfl (by kernel_rfl) (by kernel_rfl) (by kernel_rfl) (fun _ _ _ h => h) (Or.inl ⟨by kernel_rfl, ?_⟩) hHeld ?_
    · intro wx hSw
      try dsimp only at hSw
      go_simp
    try simp only [Act.put, List.getElem_toArray, List.getElem_cons_succ, List.getElem_cons_zero, List.setIfInBounds_toArray, List.set_cons_zero, List.set_cons_succ]
    refine wpAnyH_take (i := 1) (v := msg cic fb ob m) rfl (by kernel_rfl) (by kernel_rfl) (by kernel_rfl) (fun _ _ _ h => h) (Or.inl ⟨by kernel_rfl, ?_⟩) hHeld ?_
    · intro wx hSw
      try dsimp only at hSw
      go_simp
    try simp only [Act.put, List.getElem_toArray, List.getElem_cons_succ, List.getElem_cons_zero, List.setIfInBounds_toArray, List.set_cons_zero, List.set_cons_succ]
    refine wpAnyH_take (i := 3) (v := Value.agg #[.int .u8 c0, .int .u8 c1, .int .u8 c2, .int .u8 c3, .bool b4, .bool b5, .bool b6, .bool b7, .bool b8, .bool b9, .int .u8 c10]) rfl (by kernel_rfl) (by kernel_rfl) (by kernel_rfl) (fun _ _ _ h => h) (Or.inl ⟨by kernel_rfl, ?_⟩) hHeld ?_
    · intro wx hSw
      try dsimp only at hSw
      go_simp
    try simp only [Act.put, List.getElem_toArray, List.getElem_cons_succ, List.getElem_cons_zero, List.setIfInBounds_toArray, List.set_cons_zero, List.set_cons_succ]
    refine wpAnyH_take (i := 4) (v := Value.agg #[.int .u8 d0, .int .u8 d1, .int .u8 d2, .int .u8 d3, .bool e4, .bool e5, .bool e6, .bool e7, .bool e8, .bool e9, .int .u8 d10]) rfl (by kernel_rfl) (by kernel_rfl) (by kernel_rfl) (fun _ _ _ h => h) (Or.inl ⟨by kernel_rfl, ?_⟩) hHeld ?_
    · intro wx hSw
      try dsimp only at hSw
      go_simp
    try simp only [Act.put, List.getElem_toArray, List.getElem_cons_succ, List.getElem_cons_zero, List.setIfInBounds_toArray, List.set_cons_zero, List.set_cons_succ]
    refine wpAnyH_ready (rs := [2]) (by kernel_rfl) (by simp) ?_
    refine AllReadyH.cons rfl (fun K hK => ?_) AllReadyH.nil
    go_simp
    refine (same_any cic _ _ fa fb oa ob n m _ _ _ _ _ _ _ _ _ (hfa4.below ?_) (hfb4.below ?_) (hoa4.below ?_) (hob4.below ?_) _ HS.out).mono ?_
    · exact hHeld.2
    · exact hHeld.2
    · exact hHeld.2
    · exact hHeld.2
    rintro e w5 ⟨rfl, hb5⟩
    refine hK.out _ _ (keepS hHeld hb5) (fun hHeld5 => ?_)
    clear hK K hHeld
    try simp only [Act.put, List.getElem_toArray, List.getElem_cons_succ, List.getElem_cons_zero, List.setIfInBounds_toArray, List.set_cons_zero, List.set_cons_succ]
    refine wpAnyH_ready (rs := [5]) (by kernel_rfl) (by simp) ?_
    refine AllReadyH.cons rfl (fun K hK => ?_) AllReadyH.nil
    go_simp
    refine (masked_any _ _ _ _ _ _ _ _ _ _ _ _ _ _ _ _ _ _ _ _ _ _ _ _ HM.out).mono ?_
    rintro e w6 ⟨rfl, hb6⟩
    refine hK.out _ _ (keepS hHeld5 hb6) (fun hHeld6 => ?_)
    clear hK K hHeld5
    try simp only [Act.put, List.getElem_toArray, List.getElem_cons_succ, List.getElem_cons_zero, List.setIfInBounds_toArray, List.set_cons_zero, List.set_cons_succ]
    refine wpAnyH_take (i := 6) (v := .bool false) rfl (by kernel_rfl) (by kernel_rfl) (by kernel_rfl) (fun _ _ _ h => h) (Or.inl ⟨by kernel_rfl, ?_⟩) hHeld6 ?_
    · intro wx hSw
      try dsimp only at hSw
      go_simp
    try simp only [Act.put, List.getElem_toArray, List.getElem_cons_succ, List.getElem_cons_zero, List.setIfInBounds_toArray, List.set_cons_zero, List.set_cons_succ]
    refine wpAnyH_take (i := 7) rfl (by kernel_rfl) (by kernel_rfl) (by kernel_rfl) (fun _ _ _ h => h) (Or.inr ⟨by kernel_rfl, rfl⟩) hHeld6 ?_
    try simp only [Act.put, List.getElem_toArray, List.getElem_cons_succ, List.getElem_cons_zero, List.setIfInBounds_toArray, List.set_cons_zero, List.set_cons_succ]
    refine wpAnyH_take (i := 8) rfl (by kernel_rfl) (by kernel_rfl) (by kernel_rfl) (fun _ _ _ h => h) (Or.inr ⟨by kernel_rfl, rfl⟩) hHeld6 ?_
    try simp only [Act.put, List.getElem_toArray, List.getElem_cons_succ, List.getElem_cons_zero, List.setIfInBounds_toArray, List.set_cons_zero, List.set_cons_succ]
    refine wpAnyH_take (i := 9) rfl (by kernel_rfl) (by kernel_rfl) (by kernel_rfl) (fun _ _ _ h => h) (Or.inr ⟨by kernel_rfl, rfl⟩) hHeld6 ?_
    try simp only [Act.put, List.getElem_toArray, List.getElem_cons_succ, List.getElem_cons_zero, List.setIfInBounds_toArray, List.set_cons_zero, List.set_cons_succ]
    refine wpAnyH_take (i := 10) (v := .bool false) rfl (by kernel_rfl) (by kernel_rfl) (by kernel_rfl) (fun _ _ _ h => h) (Or.inl ⟨by kernel_rfl, ?_⟩) hHeld6 ?_
    · intro wx hSw
      try dsimp only at hSw
      go_simp
    try simp only [Act.put, List.getElem_toArray, List.getElem_cons_succ, List.getElem_cons_zero, List.setIfInBounds_toArray, List.set_cons_zero, List.set_cons_succ]
    refine wpAnyH_take (i := 11) (v := .bool true) rfl (by kernel_rfl) (by kernel_rfl) (by kernel_rfl) (fun _ _ _ h => h) (Or.inl ⟨by kernel_rfl, ?_⟩) hHeld6 ?_
    · intro wx hSw
      try dsimp only at hSw
      go_simp
    try simp only [Act.put, List.getElem_toArray, List.getElem_cons_succ, List.getElem_cons_zero, List.setIfInBounds_toArray, List.set_cons_zero, List.set_cons_succ]
    refine wpAnyH_take (i := 12) (v := .bool true) rfl (by kernel_rfl) (by kernel_rfl) (by kernel_rfl) (fun _ _ _ h => h) (Or.inl ⟨by kernel_rfl, ?_⟩) hHeld6 ?_
    · intro wx hSw
      try dsimp only at hSw
      go_simp
    try simp only [Act.put, List.getElem_toArray, List.getElem_cons_succ, List.getElem_cons_zero, List.setIfInBounds_toArray, List.set_cons_zero, List.set_cons_succ]
    refine wpAnyH_done (by kernel_rfl) ?_ _
    go_wp2
    go_ret
    exact ⟨by kernel_rfl, HB.trans (hHeld6.2.mono (by omega))⟩
  · have hs5 : s = oeq o0 o1 o2 o3 p0 p1 p2 p3 := hsm.trans (Bool.true_and _)
    clear hsm
    subst hs5
    go_region_held3 (fun w' => (∀ b o, b < w4.heap.size → w'.cell? ⟨b, o, none⟩ = w4.cell? ⟨b, o, none⟩) ∧ Below w4.heap.size w4 w') (first | exact ⟨fun b o h => rfl, (Below.refl _ _).drew⟩ | exact keepS ‹_› ‹_›)
      (first
        | (go_at_call 7; refine (same_any cic _ _ fa fb oa ob n m _ _ _ _ _ _ _ _ _ (hfa4.below ?_) (hfb4.below ?_) (hoa4.below ?_) (hob4.below ?_) _ HS.out).mono ?_; exact (Below.refl _ _).drew; exact (Below.refl _ _).drew; exact (Below.refl _ _).drew; exact (Below.refl _ _).drew; rintro e w5 ⟨rfl, hb5⟩)
        | (go_at_call 8; refine (masked_any _ _ _ _ _ _ _ _ _ _ _ _ _ _ _ _ _ _ _ _ _ _ _ _ HM.out).mono ?_; rintro e w6 ⟨rfl, hb6⟩))
    go_wp2
    go_ret
    rename_i hHeld
    exact ⟨by kernel_rfl, HB.trans (hHeld.2.mono (by omega))⟩
end Go.Proofs.Qxb6628779a
