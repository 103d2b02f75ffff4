/- strings.HasPrefix, strings.CutSuffix and eventtype.Match walked. -/
import Derived.Test.Qxb6628907aRows
import Derived.WalkKit
import Derived.WalkSpells
import Derived.Below
import Derived.Handy
namespace Go.Proofs.Qxb6628907a
open Go.RowKit

/-! ### Lists -/
theorem ext_list (t : ByteArray) (i j : Nat) : (t.extract i j).data.toList = (t.data.toList.drop i).take (j - i) := by
  simp [ByteArray.data_extract]
theorem beq_lists (a b : ByteArray) : (a.toList == b.toList) = decide (a.data.toList = b.data.toList) := by
  rw [ByteArray.toList_eq, ByteArray.toList_eq, Bool.eq_iff_iff]
  simp
theorem len_list (a : ByteArray) : a.data.toList.length = a.size := by simp

theorem pre_iff (t p : ByteArray) : (t.extract 0 p.size).data.toList = p.data.toList ↔ p.data.toList <+: t.data.toList := by
  rw [ext_list, List.drop_zero, Nat.sub_zero, ← len_list p, List.prefix_iff_eq_take, eq_comm]
theorem suf_iff (t p : ByteArray) : (t.extract (t.size - p.size) t.size).data.toList = p.data.toList ↔ p.data.toList <:+ t.data.toList := by
  rw [ext_list, ← len_list p, ← len_list t, List.suffix_iff_eq_drop, eq_comm]
  rw [List.take_of_length_le (by simp)]

/-! ### The walks -/
theorem pre_yes (t p : ByteArray) (w : World) (h : p.data.toList <+: t.data.toList) (_ht : t.size ≤ 4194304) : Calls Try.prog 11 #[.string t, .string p] w fun e w' => e = .returned (.bool true) ∧ w' = w := by
  have hl := h.length_le
  rw [len_list, len_list] at hl
  have hi : (p.size : Int) ≤ (t.size : Int) := by omega
  have hd : decide ((p.size : Int) ≤ (t.size : Int)) = true := decide_eq_true hi
  have hb : ((t.extract 0 p.size).toList == p.toList) = true := by rw [beq_lists]; exact decide_eq_true ((pre_iff t p).2 h)
  have HB := show Hid _ from hb
  clear hb h
  go_enter Try.func11, Try.ntmps11
  go_wp2
  go_ret
  exact ⟨congrArg (fun b => Ending.returned (.bool b)) HB.out, rfl⟩
theorem pre_no (t p : ByteArray) (w : World) (h : ¬ p.data.toList <+: t.data.toList) (_ht : t.size ≤ 4194304) (_hp : p.size ≤ 4194304) : Calls Try.prog 11 #[.string t, .string p] w fun e w' => e = .returned (.bool false) ∧ w' = w := by
  have hb : ((t.extract 0 p.size).toList == p.toList) = false := by rw [beq_lists]; exact decide_eq_false (fun e => h ((pre_iff t p).1 e))
  have HB := show Hid _ from hb
  clear hb h
  by_cases hl : p.size ≤ t.size
  · have hi : (p.size : Int) ≤ (t.size : Int) := by omega
    have hd : decide ((p.size : Int) ≤ (t.size : Int)) = true := decide_eq_true hi
    go_enter Try.func11, Try.ntmps11
    go_wp2
    go_ret
    exact ⟨congrArg (fun b => Ending.returned (.bool b)) HB.out, rfl⟩
  · have hi : ¬ ((p.size : Int) ≤ (t.size : Int)) := by omega
    have hd : decide ((p.size : Int) ≤ (t.size : Int)) = false := decide_eq_false hi
    go_enter Try.func11, Try.ntmps11
    go_wp2
    go_ret
    exact ⟨rfl, rfl⟩
theorem hasPre_yes (t p : ByteArray) (w : World) (h : p.data.toList <+: t.data.toList) (ht : t.size ≤ 4194304) : Calls Try.prog 9 #[.string t, .string p] w fun e w' => e = .returned (.bool true) ∧ w' = w := by
  have H := show Hid _ from h
  clear h
  go_enter Try.func9, Try.ntmps9
  go_wp2_with (go_at_call 11; refine (pre_yes t p _ H.out ht).mono ?_; rintro e w ⟨rfl, rfl⟩)
  go_ret
  exact ⟨rfl, rfl⟩
theorem hasPre_no (t p : ByteArray) (w : World) (h : ¬ p.data.toList <+: t.data.toList) (ht : t.size ≤ 4194304) (hp : p.size ≤ 4194304) : Calls Try.prog 9 #[.string t, .string p] w fun e w' => e = .returned (.bool false) ∧ w' = w := by
  have H := show Hid _ from h
  clear h
  go_enter Try.func9, Try.ntmps9
  go_wp2_with (go_at_call 11; refine (pre_no t p _ H.out ht hp).mono ?_; rintro e w ⟨rfl, rfl⟩)
  go_ret
  exact ⟨rfl, rfl⟩

theorem suf_yes (t p : ByteArray) (w : World) (h : p.data.toList <:+ t.data.toList) (ht : t.size ≤ 4194304) : Calls Try.prog 12 #[.string t, .string p] w fun e w' => e = .returned (.bool true) ∧ w' = w := by
  have hl := h.length_le
  rw [len_list, len_list] at hl
  have hi : (p.size : Int) ≤ (t.size : Int) := by omega
  have hd : decide ((p.size : Int) ≤ (t.size : Int)) = true := decide_eq_true hi
  have hb : ((t.extract (t.size - p.size) t.size).toList == p.toList) = true := by rw [beq_lists]; exact decide_eq_true ((suf_iff t p).2 h)
  have HB := show Hid _ from hb
  clear hb h
  go_enter Try.func12, Try.ntmps12
  go_wp2
  go_ret
  exact ⟨congrArg (fun b => Ending.returned (.bool b)) HB.out, rfl⟩
theorem suf_no (t p : ByteArray) (w : World) (h : ¬ p.data.toList <:+ t.data.toList) (ht : t.size ≤ 4194304) (hp : p.size ≤ 4194304) : Calls Try.prog 12 #[.string t, .string p] w fun e w' => e = .returned (.bool false) ∧ w' = w := by
  have hb : ((t.extract (t.size - p.size) t.size).toList == p.toList) = false := by rw [beq_lists]; exact decide_eq_false (fun e => h ((suf_iff t p).1 e))
  have HB := show Hid _ from hb
  clear hb h
  by_cases hl : p.size ≤ t.size
  · have hi : (p.size : Int) ≤ (t.size : Int) := by omega
    have hd : decide ((p.size : Int) ≤ (t.size : Int)) = true := decide_eq_true hi
    go_enter Try.func12, Try.ntmps12
    go_wp2
    go_ret
    exact ⟨congrArg (fun b => Ending.returned (.bool b)) HB.out, rfl⟩
  · have hi : ¬ ((p.size : Int) ≤ (t.size : Int)) := by omega
    have hd : decide ((p.size : Int) ≤ (t.size : Int)) = false := decide_eq_false hi
    go_enter Try.func12, Try.ntmps12
    go_wp2
    go_ret
    exact ⟨rfl, rfl⟩

theorem cut0_yes (t p : ByteArray) (w : World) (h : p.data.toList <:+ t.data.toList) (ht : t.size ≤ 4194304) : Calls Try.prog 10 #[.string t, .string p] w fun e w' => e = .returned (.tuple #[.string (t.extract 0 (t.size - p.size)), .bool true]) ∧ w' = w := by
  have hl := h.length_le
  rw [len_list, len_list] at hl
  have hi : (p.size : Int) ≤ (t.size : Int) := by omega
  have H := show Hid _ from h
  clear h
  go_enter Try.func10, Try.ntmps10
  go_wp2_with (go_at_call 12; refine (suf_yes t p _ H.out ht).mono ?_; rintro e w ⟨rfl, rfl⟩)
  go_ret2
  exact ⟨rfl, rfl⟩
theorem cut0_no (t p : ByteArray) (w : World) (h : ¬ p.data.toList <:+ t.data.toList) (ht : t.size ≤ 4194304) (hp : p.size ≤ 4194304) : Calls Try.prog 10 #[.string t, .string p] w fun e w' => e = .returned (.tuple #[.string t, .bool false]) ∧ w' = w := by
  have H := show Hid _ from h
  clear h
  go_enter Try.func10, Try.ntmps10
  go_wp2_with (go_at_call 12; refine (suf_no t p _ H.out ht hp).mono ?_; rintro e w ⟨rfl, rfl⟩)
  go_ret2
  exact ⟨rfl, rfl⟩
theorem cut_yes (t p : ByteArray) (w : World) (h : p.data.toList <:+ t.data.toList) (ht : t.size ≤ 4194304) : Calls Try.prog 8 #[.string t, .string p] w fun e w' => e = .returned (.tuple #[.string (t.extract 0 (t.size - p.size)), .bool true]) ∧ w' = w := by
  have H := show Hid _ from h
  clear h
  go_enter Try.func8, Try.ntmps8
  go_wp2_with (go_at_call 10; refine (cut0_yes t p _ H.out ht).mono ?_; rintro e w ⟨rfl, rfl⟩)
  go_ret2
  exact ⟨rfl, rfl⟩
theorem cut_no (t p : ByteArray) (w : World) (h : ¬ p.data.toList <:+ t.data.toList) (ht : t.size ≤ 4194304) (hp : p.size ≤ 4194304) : Calls Try.prog 8 #[.string t, .string p] w fun e w' => e = .returned (.tuple #[.string t, .bool false]) ∧ w' = w := by
  have H := show Hid _ from h
  clear h
  go_enter Try.func8, Try.ntmps8
  go_wp2_with (go_at_call 10; refine (cut0_no t p _ H.out ht hp).mono ?_; rintro e w ⟨rfl, rfl⟩)
  go_ret2
  exact ⟨rfl, rfl⟩

/-- p matches t. -/
def Mt (p t : List UInt8) : Prop := p = [42] ∨ p = t ∨ ([46, 42] <:+ p ∧ p.dropLast <+: t)

/-- The base and its dot: the pattern but its last byte. -/
theorem base_dot (p : ByteArray) (h : (⟨#[46, 42]⟩ : ByteArray).data.toList <:+ p.data.toList) : (p.extract 0 (p.size - (⟨#[46, 42]⟩ : ByteArray).size) ++ ⟨#[46]⟩).data.toList = p.data.toList.dropLast := by
  obtain ⟨b, hb⟩ := h
  have hl := congrArg List.length hb
  rw [len_list] at hl
  have e2 : (⟨#[46, 42]⟩ : ByteArray).size = 2 := rfl
  have e3 : (⟨#[46, 42]⟩ : ByteArray).data.toList = [46, 42] := rfl
  rw [e3] at hb hl
  rw [ByteArray.data_append, Array.toList_append, ext_list, ← hb, e2, List.drop_zero, Nat.sub_zero]
  have e4 : (b ++ ([46, 42] : List UInt8)).dropLast = b ++ [46] := by
    rw [List.dropLast_append_of_ne_nil (by simp)]; rfl
  rw [e4, List.take_append_of_le_length (by simp at hl; omega), List.take_of_length_le (by simp at hl; omega)]

theorem any_eq (p : ByteArray) (h : p.data.toList = [42]) : (p.toList == [42]) = true := by
  rw [ByteArray.toList_eq]; simpa using h
theorem any_ne (p : ByteArray) (h : ¬ p.data.toList = [42]) : (p.toList == [42]) = false := by
  rw [ByteArray.toList_eq]; simpa using h

theorem match_any1 (p t : ByteArray) (w : World) (h : p.data.toList = [42]) : Calls Try.prog 6 #[.string p, .string t] w fun e w' => e = .returned (.bool true) ∧ w' = w := by
  have h1 := any_eq p h
  clear h
  go_enter Try.func6, Try.ntmps6
  go_wp2
  go_ret
  exact ⟨rfl, rfl⟩
theorem match_wild_yes (p t : ByteArray) (w : World) (h : ¬ p.data.toList = [42]) (hs : (⟨#[46, 42]⟩ : ByteArray).data.toList <:+ p.data.toList) (hp : p.data.toList.dropLast <+: t.data.toList) (h1 : p.size ≤ 1048580) (h2 : t.size ≤ 1048580) : Calls Try.prog 6 #[.string p, .string t] w fun e w' => e = .returned (.bool true) ∧ w' = w := by
  have h1 := any_ne p h
  rw [← base_dot p hs] at hp
  have HS := show Hid _ from hs
  have HP := show Hid _ from hp
  clear h hs hp
  go_enter Try.func6, Try.ntmps6
  go_wp2_with (first
    | (go_at_call 8; refine (cut_yes p _ _ HS.out (by omega)).mono ?_; rintro e w ⟨rfl, rfl⟩)
    | (go_at_call 9; refine (hasPre_yes t _ _ HP.out (by omega)).mono ?_; rintro e w ⟨rfl, rfl⟩))
  go_ret
  exact ⟨rfl, rfl⟩
theorem match_wild_no (p t : ByteArray) (w : World) (h : ¬ p.data.toList = [42]) (hs : (⟨#[46, 42]⟩ : ByteArray).data.toList <:+ p.data.toList) (hp : ¬ p.data.toList.dropLast <+: t.data.toList) (h1 : p.size ≤ 1048580) (h2 : t.size ≤ 1048580) : Calls Try.prog 6 #[.string p, .string t] w fun e w' => e = .returned (.bool false) ∧ w' = w := by
  have hq := any_ne p h
  rw [← base_dot p hs] at hp
  have HZ : (p.extract 0 (p.size - (⟨#[46, 42]⟩ : ByteArray).size) ++ ⟨#[46]⟩).size ≤ 4194304 := by
    have e := congrArg List.length (base_dot p hs)
    rw [len_list, List.length_dropLast, len_list] at e
    omega
  have HS := show Hid _ from hs
  have HP := show Hid _ from hp
  have HL := show Hid _ from HZ
  clear h hs hp HZ
  go_enter Try.func6, Try.ntmps6
  go_wp2_with (first
    | (go_at_call 8; refine (cut_yes p _ _ HS.out (by omega)).mono ?_; rintro e w ⟨rfl, rfl⟩)
    | (go_at_call 9; refine (hasPre_no t _ _ HP.out (by omega) HL.out).mono ?_; rintro e w ⟨rfl, rfl⟩))
  go_ret
  exact ⟨rfl, rfl⟩
theorem match_plain (p t : ByteArray) (w : World) (b : Bool) (h : ¬ p.data.toList = [42]) (hs : ¬ (⟨#[46, 42]⟩ : ByteArray).data.toList <:+ p.data.toList) (hp : (p.toList == t.toList) = b) (h1 : p.size ≤ 1048580) : Calls Try.prog 6 #[.string p, .string t] w fun e w' => e = .returned (.bool b) ∧ w' = w := by
  have hq := any_ne p h
  have HS := show Hid _ from hs
  have HP := show Hid _ from hp
  have HL : Hid ((⟨#[46, 42]⟩ : ByteArray).size ≤ 4194304) := by show 2 ≤ 4194304; omega
  clear h hs hp
  go_enter Try.func6, Try.ntmps6
  go_wp2_with (go_at_call 8; refine (cut_no p _ _ HS.out (by omega) HL.out).mono ?_; rintro e w ⟨rfl, rfl⟩)
  go_ret
  exact ⟨congrArg (fun b => Ending.returned (.bool b)) HP.out, rfl⟩

theorem match_yes (p t : ByteArray) (w : World) (h : Mt p.data.toList t.data.toList) (h1 : p.size ≤ 1048580) (h2 : t.size ≤ 1048580) : Calls Try.prog 6 #[.string p, .string t] w fun e w' => e = .returned (.bool true) ∧ w' = w := by
  by_cases ha : p.data.toList = [42]
  · exact match_any1 p t w ha
  by_cases hs : (⟨#[46, 42]⟩ : ByteArray).data.toList <:+ p.data.toList
  · refine match_wild_yes p t w ha hs ?_ h1 h2
    rcases h with h | h | h
    · exact absurd h ha
    · rw [← h]; exact List.dropLast_prefix _
    · exact h.2
  · refine match_plain p t w true ha hs ?_ h1
    rw [beq_lists]
    rcases h with h | h | h
    · exact absurd h ha
    · exact decide_eq_true h
    · exact absurd h.1 hs
theorem match_no (p t : ByteArray) (w : World) (h : ¬ Mt p.data.toList t.data.toList) (h1 : p.size ≤ 1048580) (h2 : t.size ≤ 1048580) : Calls Try.prog 6 #[.string p, .string t] w fun e w' => e = .returned (.bool false) ∧ w' = w := by
  have ha : ¬ p.data.toList = [42] := fun e => h (.inl e)
  by_cases hs : (⟨#[46, 42]⟩ : ByteArray).data.toList <:+ p.data.toList
  · exact match_wild_no p t w ha hs (fun e => h (.inr (.inr ⟨hs, e⟩))) h1 h2
  · refine match_plain p t w false ha hs ?_ h1
    rw [beq_lists]
    exact decide_eq_false (fun e => h (.inr (.inl e)))
end Go.Proofs.Qxb6628907a
