/-
  The walk of FnSpanRestartInsideRun.
-/
import Derived.Test.Qxb6616330aSpan
import Derived.OpenShut
namespace Go.Proofs.Qxb6616330a.fnSpanRestartInsideRun
open Go.RowKit

set_option maxHeartbeats 400000 in
theorem bytes_yes (s : ByteArray) (i j : Int) (w : World) (h : s.size ≤ 1048576) :
    Calls Try.prog 11 #[.string s, .int .i64 i, .int .i64 j] w fun e w' => e = .returned (.bool true) ∧ w' = w := by
  go_enter Try.func11, Try.ntmps11
  go_wp2
  go_ret
  exact ⟨rfl, rfl⟩

set_option maxHeartbeats 400000 in
theorem bytes_no (s : ByteArray) (i j : Int) (w : World) (hs : s.size ≤ maxLen) (h : 1048576 < s.size) :
    Calls Try.prog 11 #[.string s, .int .i64 i, .int .i64 j] w fun e w' => e = .returned (.bool false) ∧ w' = w := by
  unfold maxLen at hs
  go_enter Try.func11, Try.ntmps11
  go_wp2
  go_ret
  exact ⟨rfl, rfl⟩

set_option maxHeartbeats 400000 in
theorem walk_no (s : ByteArray) (i j : Int) (w : World) (hs : s.size ≤ maxLen) (h : 1048576 < s.size) :
    Calls Try.prog 4 #[.string s, .int .i64 i, .int .i64 j] w fun e w' => e = .returned (.bool true) ∧ w' = w := by
  go_enter Try.func4, Try.ntmps4
  go_wp2_with (go_at_call 11; refine (bytes_no _ _ _ _ hs h).mono ?_; rintro e w' ⟨rfl, rfl⟩)
  go_ret
  exact ⟨rfl, rfl⟩

set_option maxHeartbeats 400000 in
theorem walk_neg1 (s : ByteArray) (i j : Int) (w : World) (hs : s.size ≤ 1048576) (hi : i < 0) :
    Calls Try.prog 4 #[.string s, .int .i64 i, .int .i64 j] w fun e w' => e = .returned (.bool true) ∧ w' = w := by
  go_enter Try.func4, Try.ntmps4
  go_wp2_with (go_at_call 11; refine (bytes_yes _ _ _ _ hs).mono ?_; rintro e w' ⟨rfl, rfl⟩)
  go_ret
  exact ⟨rfl, rfl⟩

set_option maxHeartbeats 400000 in
theorem walk_neg2 (s : ByteArray) (i j : Int) (w : World) (hs : s.size ≤ 1048576) (hi : ¬ i < 0) (hj : j < 0) :
    Calls Try.prog 4 #[.string s, .int .i64 i, .int .i64 j] w fun e w' => e = .returned (.bool true) ∧ w' = w := by
  go_enter Try.func4, Try.ntmps4
  go_wp2_with (go_at_call 11; refine (bytes_yes _ _ _ _ hs).mono ?_; rintro e w' ⟨rfl, rfl⟩)
  go_ret
  exact ⟨rfl, rfl⟩

set_option maxHeartbeats 1000000 in
theorem walk_yes (s : ByteArray) (i j r : Nat) (w : World) (hs : s.size ≤ 1048576) (hi : (i : Int) ≤ 9223372036854775807) (hj : (j : Int) ≤ 9223372036854775807)
    (HR : Hid (spn s i = r)) (q1 : ¬ r < i)
    (hd : (s.size ≤ i ∧ r = i) ∨ (i < s.size ∧ ¬ s.size < r ∧ ∃ h : r < s.size, blk (s[r].toNat : Int) = false) ∨ (i < s.size ∧ ¬ s.size < r ∧ ¬ r < s.size))
    (HA : Hid (spn s r = r)) (ht : (i ≤ j ∧ j ≤ r ∧ spn s j = r) ∨ j < i ∨ (i ≤ j ∧ r < j)) :
    Calls Try.prog 4 #[.string s, .int .i64 (i : Int), .int .i64 (j : Int)] w fun e w' => e = .returned (.bool true) ∧ w' = w := by
  rcases hd with ⟨d1, rfl⟩ | ⟨d1, d2, d3, d4⟩ | ⟨d1, d2, d3⟩
  all_goals
    rcases ht with ⟨t1, t2, t3⟩ | t1 | ⟨t1, t2⟩
    · have T3 : Hid (spn s j = _) := t3
      clear t3
      go_enter Try.func4, Try.ntmps4
      go_wp2_with (go_at_call 11; refine (bytes_yes _ _ _ _ hs).mono ?_; rintro e w' ⟨rfl, rfl⟩)
      refine (zspan_to s _ _ _ _ hs (by omega) rfl HR.out).mono ?_
      rintro e w' ⟨rfl, rfl⟩
      go_wp2_with (go_at_call 10; refine (isBlank_any _ _).mono ?_; rintro e w' ⟨rfl, rfl⟩)
      refine (zspan_to s _ _ _ _ hs (by omega) rfl HA.out).mono ?_
      rintro e w' ⟨rfl, rfl⟩
      go_wp2_with fail
      refine (zspan_to s _ _ _ _ hs (by omega) rfl T3.out).mono ?_
      rintro e w' ⟨rfl, rfl⟩
      go_wp2
      go_ret
      exact ⟨rfl, rfl⟩
    · go_enter Try.func4, Try.ntmps4
      go_wp2_with (go_at_call 11; refine (bytes_yes _ _ _ _ hs).mono ?_; rintro e w' ⟨rfl, rfl⟩)
      refine (zspan_to s _ _ _ _ hs (by omega) rfl HR.out).mono ?_
      rintro e w' ⟨rfl, rfl⟩
      go_wp2_with (go_at_call 10; refine (isBlank_any _ _).mono ?_; rintro e w' ⟨rfl, rfl⟩)
      refine (zspan_to s _ _ _ _ hs (by omega) rfl HA.out).mono ?_
      rintro e w' ⟨rfl, rfl⟩
      go_wp2
      go_ret
      exact ⟨rfl, rfl⟩
    · go_enter Try.func4, Try.ntmps4
      go_wp2_with (go_at_call 11; refine (bytes_yes _ _ _ _ hs).mono ?_; rintro e w' ⟨rfl, rfl⟩)
      refine (zspan_to s _ _ _ _ hs (by omega) rfl HR.out).mono ?_
      rintro e w' ⟨rfl, rfl⟩
      go_wp2_with (go_at_call 10; refine (isBlank_any _ _).mono ?_; rintro e w' ⟨rfl, rfl⟩)
      refine (zspan_to s _ _ _ _ hs (by omega) rfl HA.out).mono ?_
      rintro e w' ⟨rfl, rfl⟩
      go_wp2
      go_ret
      exact ⟨rfl, rfl⟩

theorem walk_all (s : ByteArray) (i j : Nat) (w : World) (hs : s.size ≤ 1048576) (hi : (i : Int) ≤ 9223372036854775807) (hj : (j : Int) ≤ 9223372036854775807) :
    Calls Try.prog 4 #[.string s, .int .i64 (i : Int), .int .i64 (j : Int)] w fun e w' => e = .returned (.bool true) ∧ w' = w := by
  have g := spn_ge s i
  refine walk_yes s i j (spn s i) w hs hi hj rfl (by omega) ?_ (spn_again s i _ g (Nat.le_refl _)) ?_
  · by_cases h : s.size ≤ i
    · exact Or.inl ⟨h, spn_out s i h⟩
    · have g2 := spn_le s i (by omega)
      by_cases h2 : spn s i < s.size
      · exact Or.inr (Or.inl ⟨by omega, by omega, h2, spn_end s i h2⟩)
      · exact Or.inr (Or.inr ⟨by omega, by omega, h2⟩)
  · by_cases h1 : j < i
    · exact Or.inr (Or.inl h1)
    · by_cases h2 : j ≤ spn s i
      · exact Or.inl ⟨by omega, h2, spn_again s i j (by omega) h2⟩
      · exact Or.inr (Or.inr ⟨by omega, by omega⟩)

end Go.Proofs.Qxb6616330a.fnSpanRestartInsideRun
