/-
  The contracts of strings.HasPrefix at a one-byte prefix, LabelKind, bindable and ZZbindable.
-/
import Derived.Test.Qxb6616482aRows
import Derived.WalkKit
import Derived.WalkSpells
import Derived.WalkLawsBesides
import Derived.Lib.Strings
namespace Go.Proofs.Qxb6616482a
open Go.RowKit

theorem ret_bool {a b : Bool} (h : a = b) : Ending.returned (.bool a) = .returned (.bool b) := by rw [h]

/-- the text opens with the byte b -/
def pre (s : ByteArray) (b : UInt8) : Bool := s.data.toList.head? == some b

theorem pre_empty (s : ByteArray) (b : UInt8) (h : s.size ≤ 0) : pre s b = false := by
  unfold pre
  have : s.data.toList = [] := List.eq_nil_of_length_eq_zero (by rw [← Lib.size_eq]; omega)
  rw [this]; rfl

theorem pre_extract (s : ByteArray) (b : UInt8) : ((s.extract 0 1).toList == [b]) = pre s b := by
  rw [Lib.extract_toList]
  unfold pre
  cases s.data.toList with
  | nil => rfl
  | cons c l => simp

set_option maxHeartbeats 400000 in
theorem hp_any (s : ByteArray) (b : UInt8) (w : World) (hs : s.size ≤ maxLen) :
    Calls Try.prog 10 #[.string s, .string ⟨#[b]⟩] w fun e w' => e = .returned (.bool (pre s b)) ∧ w = w' := by
  unfold maxLen at hs
  by_cases h : s.size ≤ 0
  · go_enter Try.func10, Try.ntmps10
    go_wp2
    go_ret
    exact ⟨ret_bool (pre_empty s b h).symm, rfl⟩
  · have h1 : 1 ≤ s.size := by omega
    clear h
    go_enter Try.func10, Try.ntmps10
    go_wp2
    go_ret
    exact ⟨ret_bool (pre_extract s b), rfl⟩

/-! the sort of field that the name is of: 2 a definition, 1 hidden, 0 regular -/
set_option maxHeartbeats 400000 in
theorem kind_def (p : Nat) (s : ByteArray) (w : World) (hs : s.size ≤ maxLen) (hc : w.cell? ⟨p, 2, none⟩ = some (.string s)) (h1 : pre s 35 = true) :
    Calls Try.prog 7 #[.pointer (some ⟨p, 0, none⟩)] w fun e w' => e = .returned (.int .u8 2) ∧ w = w' := by
  go_enter Try.func7, Try.ntmps7
  go_wp2_with (go_at_call 10; refine (hp_any _ _ _ hs).mono ?_; rintro e w' ⟨rfl, rfl⟩)
  go_ret
  exact ⟨rfl, rfl⟩

set_option maxHeartbeats 400000 in
theorem kind_hid (p : Nat) (s : ByteArray) (w : World) (hs : s.size ≤ maxLen) (hc : w.cell? ⟨p, 2, none⟩ = some (.string s)) (h1 : pre s 35 = false) (h2 : pre s 95 = true) :
    Calls Try.prog 7 #[.pointer (some ⟨p, 0, none⟩)] w fun e w' => e = .returned (.int .u8 1) ∧ w = w' := by
  go_enter Try.func7, Try.ntmps7
  go_wp2_with (go_at_call 10; refine (hp_any _ _ _ hs).mono ?_; rintro e w' ⟨rfl, rfl⟩)
  go_ret
  exact ⟨rfl, rfl⟩

set_option maxHeartbeats 400000 in
theorem kind_reg (p : Nat) (s : ByteArray) (w : World) (hs : s.size ≤ maxLen) (hc : w.cell? ⟨p, 2, none⟩ = some (.string s)) (h1 : pre s 35 = false) (h2 : pre s 95 = false) :
    Calls Try.prog 7 #[.pointer (some ⟨p, 0, none⟩)] w fun e w' => e = .returned (.int .u8 0) ∧ w = w' := by
  go_enter Try.func7, Try.ntmps7
  go_wp2_with (go_at_call 10; refine (hp_any _ _ _ hs).mono ?_; rintro e w' ⟨rfl, rfl⟩)
  go_ret
  exact ⟨rfl, rfl⟩

/-- a let clause or an alias may bind the name -/
def bnd (s : ByteArray) : Bool := !pre s 35 && !(s.toList == [95])

set_option maxHeartbeats 400000 in
theorem bind_any (p : Nat) (s : ByteArray) (w : World) (hs : s.size ≤ maxLen) (hc : w.cell? ⟨p, 2, none⟩ = some (.string s)) :
    Calls Try.prog 6 #[.pointer (some ⟨p, 0, none⟩)] w fun e w' => e = .returned (.bool (bnd s)) ∧ w = w' := by
  by_cases h1 : pre s 35 = true
  · have hk : bnd s = false := by unfold bnd; rw [h1]; rfl
    rw [hk]; clear hk
    go_enter Try.func6, Try.ntmps6
    go_wp2_with (first | (go_at_call 7; refine (kind_def _ _ _ hs hc h1).mono ?_; rintro e w' ⟨rfl, rfl⟩) | go_in)
    go_ret
    exact ⟨rfl, rfl⟩
  · have h1 : pre s 35 = false := by simpa using h1
    have hk : bnd s = !(s.toList == [95]) := by unfold bnd; rw [h1]; rfl
    rw [hk]; clear hk
    by_cases h2 : pre s 95 = true
    · go_enter Try.func6, Try.ntmps6
      go_wp2_with (first | (go_at_call 7; refine (kind_hid _ _ _ hs hc h1 h2).mono ?_; rintro e w' ⟨rfl, rfl⟩) | go_in)
      go_ret
      exact ⟨rfl, rfl⟩
    · have h2 : pre s 95 = false := by simpa using h2
      go_enter Try.func6, Try.ntmps6
      go_wp2_with (first | (go_at_call 7; refine (kind_reg _ _ _ hs hc h1 h2).mono ?_; rintro e w' ⟨rfl, rfl⟩) | go_in)
      go_ret
      exact ⟨rfl, rfl⟩

theorem bind_to (p : Nat) (s : ByteArray) (r : Bool) (w : World) (hs : s.size ≤ maxLen) (hc : w.cell? ⟨p, 2, none⟩ = some (.string s)) (hr : bnd s = r) :
    Calls Try.prog 6 #[.pointer (some ⟨p, 0, none⟩)] w fun e w' => e = .returned (.bool r) ∧ w = w' := by
  rw [← hr]; exact bind_any p s w hs hc

end Go.Proofs.Qxb6616482a
