/-
  The contracts of isBlank, isWhitespace, span and ZZspanWS: what each call returns; the world stands.
-/
import Derived.Test.Qxb6616330aRows
import Derived.WalkKit
import Derived.WalkSpells
import Derived.WalkLawsBesides
import Derived.Test.Qxb6616330aPlain
namespace Go.Proofs.Qxb6616330a
open Go.RowKit

theorem blk_or (n : Int) : (n == 32) = false → (n == 9) = blk n := by
  intro h; unfold blk; rw [h]; rfl
theorem blk_yes (n : Int) : (n == 32) = true → true = blk n := by
  intro h; unfold blk; rw [h]; rfl
theorem ret_bool {a b : Bool} (h : a = b) : Ending.returned (.bool a) = .returned (.bool b) := by rw [h]
theorem ret_int {k : IntKind} {a b : Int} (h : a = b) : Ending.returned (.int k a) = .returned (.int k b) := by rw [h]

set_option maxHeartbeats 400000 in
theorem isWs_any (n : Int) (w : World) :
    Calls Try.prog 24 #[.int .u8 n] w fun e w' => e = .returned (.bool (blk n)) ∧ w' = w := by
  by_cases h : (n == 32) = true
  · go_enter Try.func24, Try.ntmps24
    go_wp2
    go_ret
    exact ⟨ret_bool (blk_yes n h), rfl⟩
  · have h : (n == 32) = false := by simpa using h
    go_enter Try.func24, Try.ntmps24
    go_wp2
    go_ret
    exact ⟨ret_bool (blk_or n h), rfl⟩

set_option maxHeartbeats 400000 in
theorem isBlank_any (n : Int) (w : World) :
    Calls Try.prog 10 #[.int .u8 n] w fun e w' => e = .returned (.bool (blk n)) ∧ w' = w := by
  by_cases h : (n == 32) = true
  · go_enter Try.func10, Try.ntmps10
    go_wp2
    go_ret
    exact ⟨ret_bool (blk_yes n h), rfl⟩
  · have h : (n == 32) = false := by simpa using h
    go_enter Try.func10, Try.ntmps10
    go_wp2
    go_ret
    exact ⟨ret_bool (blk_or n h), rfl⟩

set_option maxHeartbeats 400000 in
theorem zspan_any (s : ByteArray) (i : Nat) (w : World) (hs : s.size ≤ 1048576) (hi : (i : Int) ≤ 9223372036854775807) :
    Calls Try.prog 9 #[.string s, .int .i64 (i : Int)] w fun e w' => e = .returned (.int .i64 (spn s i : Int)) ∧ w' = w := by
  go_enter Try.func9, Try.ntmps9
  go_wp2
  go_loop [1] (fun t => ∃ k : Nat, (k : Int) ≤ 9223372036854775807 ∧ t = .int .i64 (k : Int) ∧ Hid (spn s k = spn s i)) (fun t => s.size - (intOf t).toNat)
  case atStart => exact ⟨i, hi, rfl, rfl⟩
  case round =>
    obtain ⟨k, hk, rfl, hr⟩ := hrel
    by_cases hlt : k < s.size
    · by_cases hb : blk (s[k].toNat : Int) = true
      · have hst : Hid (spn s (k + 1) = spn s k) := spn_step s k hlt hb
        go_wp2_with (go_at_call 24; refine (isWs_any _ _).mono ?_; rintro e w' ⟨rfl, rfl⟩)
        go_round
        case rel => exact ⟨k + 1, by omega, by go_num, (show _ = _ from by rw [hst.out, hr.out])⟩
        case measure => simp [intOf]; omega
      · have hb : blk (s[k].toNat : Int) = false := by simpa using hb
        have hst : Hid (spn s k = k) := spn_stay s k hlt hb
        go_wp2_with (go_at_call 24; refine (isWs_any _ _).mono ?_; rintro e w' ⟨rfl, rfl⟩)
        go_ret
        exact ⟨ret_int (by rw [← hr.out, hst.out]), rfl⟩
    · have hst : Hid (spn s k = k) := spn_out s k (by omega)
      go_wp2_with (go_at_call 24; refine (isWs_any _ _).mono ?_; rintro e w' ⟨rfl, rfl⟩)
      go_ret
      exact ⟨ret_int (by rw [← hr.out, hst.out]), rfl⟩

theorem zspan_to (s : ByteArray) (x : Int) (i r : Nat) (w : World) (hs : s.size ≤ 1048576) (hi : (i : Int) ≤ 9223372036854775807) (hx : x = (i : Int)) (hr : spn s i = r) :
    Calls Try.prog 9 #[.string s, .int .i64 x] w fun e w' => e = .returned (.int .i64 (r : Int)) ∧ w' = w := by
  subst hx; subst hr
  exact zspan_any s i w hs hi
end Go.Proofs.Qxb6616330a
