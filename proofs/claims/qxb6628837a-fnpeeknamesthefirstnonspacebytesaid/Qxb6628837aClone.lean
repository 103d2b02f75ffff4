/- 'zzCloneBytes' walked. -/
import Derived.Test.Qxb6628837aSmall
import Derived.Deep.OwnRows
namespace Go.Proofs.Qxb6628837a
open Go.RowKit

theorem Try.info5 : (Try.prog.info? 5).map (fun i => (i.zero, i.size, i.bytes)) = some (some (.int .u8 0), 1, 1) := by kernel_rfl

/-- The clone while it is filled: k of its cells are done. -/
structure Cloning (w wr : World) (zs : List Int) (k : Nat) : Prop where
  below : Below w.heap.size w wr
  size : wr.heap.size = w.heap.size + 1
  done : ∀ j, j < k → wr.cell? ⟨w.heap.size, j, none⟩ = some (.int .u8 (zs.getD j 0))
  there : ∀ j, j < zs.length → ∃ v, wr.cell? ⟨w.heap.size, j, none⟩ = some (.int .u8 v)
  free : ∀ j, wr.frozen? ⟨w.heap.size, j, none⟩ = false

theorem Cloning.start (w : World) (zs : List Int) : Cloning w (w.alloc (.cells (madeCells #[.int .u8 0] zs.length) 5)) zs 0 := by
  refine ⟨(Below.refl _ _).alloc (Nat.le_refl _) _, by simp, fun j h => by omega, fun j hj => ⟨0, ?_⟩, fun j => ?_⟩
  · rw [World.cell?_alloc_new]
    simp [madeCells, hj, Nat.mod_one]
  · rw [frozen?_alloc_cells]
    simp [World.frozen?]

theorem Cloning.step {w wr : World} {zs : List Int} {k : Nat} (h : Cloning w wr zs k) (hk : k < zs.length) : Cloning w (wr.setCell ⟨w.heap.size, k, none⟩ (.int .u8 (zs.getD k 0))) zs (k + 1) := by
  obtain ⟨v, hv⟩ := h.there k hk
  refine ⟨h.below.setCell (Nat.le_refl _) _, by rw [World.size_setCell]; exact h.size, fun j hj => ?_, fun j hj => ?_, fun j => ?_⟩
  · by_cases e : j = k
    · subst e
      exact World.cell?_setCell_same _ _ _ hv
    · rw [World.cell?_setCell_other _ _ _ _ (fun h' => e (by simpa using h'.symm))]
      exact h.done j (by omega)
  · by_cases e : j = k
    · subst e
      exact ⟨_, World.cell?_setCell_same _ _ _ hv⟩
    · rw [World.cell?_setCell_other _ _ _ _ (fun h' => e (by simpa using h'.symm))]
      exact h.there j hj
  · rw [World.frozen?_setCell]
    exact h.free j

/-- 's == nil' on a slice of bytes. -/
theorem eqlNil (a : Option Addr) (n c : Nat) (w : World) : (binOp .eql 22 (.slice a n c) (.slice none 0 0)).run Try.prog w = .ok (.bool a.isNone) w := Lib.run_eql_slice_nil w 22 5 a n c 0 0 Try.underlying22

theorem clone_nil (w : World) : Calls Try.prog 6 #[.slice none 0 0] w fun e w' => e = .returned (.slice none 0 0) ∧ w' = w := by
  have he := eqlNil
  go_enter Try.func6, Try.ntmps6
  go_wp2
  go_ret
  exact ⟨rfl, rfl⟩

set_option maxHeartbeats 400000 in
theorem clone_some (x : Addr) (zs : List Int) (c : Nat) (w : World) (hl : zs.length ≤ 1048576) (hcell : ∀ i, i < zs.length → w.cell? (x.add i) = some (.int .u8 (zs.getD i 0))) :
    Calls Try.prog 6 #[.slice (some x) zs.length c] w fun e w' => e = .returned (.slice (some ⟨w.heap.size, 0, none⟩) zs.length zs.length) ∧ Cloning w w' zs zs.length := by
  have he := eqlNil
  have hmk := run_make_row' (P := Try.prog) 22 5 (.int .u8 0) 1 Try.underlying22 Try.info5 rfl .i64 .i64 zs.length (by omega) (by omega)
  go_enter Try.func6, Try.ntmps6
  go_wp2
  go_loopw [4] (fun i wr => ∃ k : Nat, k ≤ zs.length ∧ i = .int .i64 k ∧ Cloning w wr zs k) (fun i _ => zs.length - (intOf i).toNat)
  case atStart => exact ⟨0, Nat.zero_le _, rfl, Cloning.start w zs⟩
  case round =>
    obtain ⟨k, hk, rfl, hcl⟩ := hrel
    by_cases hlt : k < zs.length
    · obtain ⟨b, off, spot⟩ := x
      have hc := hcell k hlt
      have hspot : spot = none := by simpa [Addr.add] using World.cell?_spot (hcell 0 (by omega))
      subst hspot
      have hadd : (⟨b, off, none⟩ : Addr).add k = ⟨b, off + k, none⟩ := by
        unfold Addr.add; split
        · subst k; rfl
        · rfl
      have hc0 : w.cell? ⟨b, off + k, none⟩ = some (.int .u8 (zs.getD k 0)) := by rw [← hadd]; exact hc
      have hbl : b < w.heap.size := World.block_lt_of_cell? w ⟨b, off + k, none⟩ hc0
      have hc1 : wr.cell? ⟨b, off + k, none⟩ = some (.int .u8 (zs.getD k 0)) := by rw [hcl.below.cell (p := ⟨b, off + k, none⟩) hbl]; exact hc0
      obtain ⟨v, hv⟩ := hcl.there k hlt
      have hfree := hcl.free k
      have hst := hcl.step hlt
      have hi : (k : Int) < (zs.length : Int) := by omega
      have hg : zs.getD k 0 = zs[k] := by simp [hlt]
      rw [hg] at hst
      clear hg hadd hc hc0 hcell hmk he
      have HST := show Hid _ from hst
      clear hst
      go_wp2
      go_roundw
      case rel => exact ⟨k + 1, by omega, by go_num, HST.out⟩
      case measure => simp [intOf]; omega
    · obtain rfl : k = zs.length := by omega
      have hi : ¬ ((zs.length : Int) < (zs.length : Int)) := by omega
      go_wp2
      go_ret
      exact ⟨rfl, hcl⟩
end Go.Proofs.Qxb6628837a
