/-
  The walk of FnSpanWhitespaceAtAnyCut.
-/
import Derived.Test.Qxb6616330aSpan
import Derived.OpenShut
namespace Go.Proofs.Qxb6616330a.fnSpanWhitespaceAtAnyCut
open Go.RowKit

set_option maxHeartbeats 400000 in
theorem bytes_yes (a b : ByteArray) (i : Int) (w : World) (h : a.size + b.size ≤ 1048576) :
    Calls Try.prog 8 #[.string a, .string b, .int .i64 i] w fun e w' => e = .returned (.bool true) ∧ w' = w := by
  go_enter Try.func8, Try.ntmps8
  go_wp2
  go_ret
  exact ⟨rfl, rfl⟩

set_option maxHeartbeats 400000 in
theorem bytes_no (a b : ByteArray) (i : Int) (w : World) (ha : a.size ≤ maxLen) (hb : b.size ≤ maxLen) (h : 1048576 < a.size + b.size) :
    Calls Try.prog 8 #[.string a, .string b, .int .i64 i] w fun e w' => e = .returned (.bool false) ∧ w' = w := by
  unfold maxLen at ha hb
  go_enter Try.func8, Try.ntmps8
  go_wp2
  all_goals
    go_ret
    exact ⟨rfl, rfl⟩

set_option maxHeartbeats 400000 in
theorem walk_no (a0 : ByteArray) (a1 : ByteArray) (a2 : Int) (w0 : a0.size ≤ maxLen) (w1 : a1.size ≤ maxLen) (w : World) (hs : 1048576 < a0.size + a1.size) :
    Calls Try.prog 3 #[.string a0, .string a1, .int .i64 a2] w fun e w' => e = .returned (.bool true) ∧ w' = w := by
  go_enter Try.func3, Try.ntmps3
  go_wp2_with (go_at_call 8; refine (bytes_no _ _ _ _ w0 w1 hs).mono ?_; rintro e w' ⟨rfl, rfl⟩)
  go_ret
  exact ⟨rfl, rfl⟩

set_option maxHeartbeats 400000 in
theorem walk_neg (a0 : ByteArray) (a1 : ByteArray) (a2 : Int) (w : World) (hs : a0.size + a1.size ≤ 1048576) (hi : a2 < 0) :
    Calls Try.prog 3 #[.string a0, .string a1, .int .i64 a2] w fun e w' => e = .returned (.bool true) ∧ w' = w := by
  go_enter Try.func3, Try.ntmps3
  go_wp2_with (go_at_call 8; refine (bytes_yes _ _ _ _ hs).mono ?_; rintro e w' ⟨rfl, rfl⟩)
  go_ret
  exact ⟨rfl, rfl⟩

set_option maxHeartbeats 400000 in
theorem walk_past (a0 : ByteArray) (a1 : ByteArray) (i : Nat) (w : World) (hs : a0.size + a1.size ≤ 1048576) (hi : (i : Int) ≤ 9223372036854775807) (hp : a0.size + a1.size ≤ i) :
    Calls Try.prog 3 #[.string a0, .string a1, .int .i64 (i : Int)] w fun e w' => e = .returned (.bool true) ∧ w' = w := by
  go_enter Try.func3, Try.ntmps3
  go_wp2_with (go_at_call 8; refine (bytes_yes _ _ _ _ hs).mono ?_; rintro e w' ⟨rfl, rfl⟩)
  obtain ⟨J, hJ⟩ : ∃ J, J = a0 ++ a1 := ⟨_, rfl⟩
  have hz : J.size = a0.size + a1.size := by rw [hJ]; simp
  rw [← hJ]
  refine (zspan_to J _ i i _ (by omega) hi rfl (spn_out J i (by omega))).mono ?_
  rintro e w' ⟨rfl, rfl⟩
  clear hJ
  go_wp2_with fail
  refine (zspan_to a1 _ (i - a0.size) (i - a0.size) _ (by omega) (by omega) (by omega) (spn_out a1 _ (by omega))).mono ?_
  rintro e w' ⟨rfl, rfl⟩
  go_wp2
  go_ret
  refine ⟨ret_bool (by simp; omega), rfl⟩

set_option maxHeartbeats 1000000 in
theorem walk_in (a0 : ByteArray) (a1 : ByteArray) (i : Nat) (w : World) (hs : a0.size + a1.size ≤ 1048576) (hp : i < a0.size + a1.size) :
    Calls Try.prog 3 #[.string a0, .string a1, .int .i64 (i : Int)] w fun e w' => e = .returned (.bool true) ∧ w' = w := by
  obtain ⟨J, hJ⟩ : ∃ J, J = a0 ++ a1 := ⟨_, rfl⟩
  have hz : J.size = a0.size + a1.size := by rw [hJ]; simp
  obtain ⟨r, hr⟩ : ∃ r, spn J i = r := ⟨_, rfl⟩
  have hr1 : i ≤ r := by rw [← hr]; exact spn_ge J i
  have hr2 : r ≤ J.size := by rw [← hr]; exact spn_le J i (by omega)
  have hin : Hid (∀ k, i ≤ k → k < r → ∀ h : k < J.size, blk (J[k].toNat : Int) = true) := fun k h1 h2 h => spn_blank J i k h1 (by rw [hr]; exact h2) h
  have hout : Hid (∀ h : r < J.size, blk (J[r].toNat : Int) = false) := by subst hr; exact fun h => spn_end J i h
  have HJ : Hid (J = a0 ++ a1) := hJ
  have HR : Hid (spn J i = r) := hr
  have HZ : Hid (J.size = a0.size + a1.size) := hz
  have hz1 : J.size ≤ a0.size + a1.size := by omega
  have hz2 : a0.size + a1.size ≤ J.size := by omega
  have hz3 : Hid ((J.size : Int) = a0.size + a1.size) := show _ = _ from by omega
  have q1 : ¬ r < i := by omega
  have q2 : ¬ J.size ≤ i := by omega
  have q3 : ¬ J.size < r := by omega
  have tl : Hid ((i < a0.size ∧ r < a0.size ∧ spn a0 i = r) ∨ (i < a0.size ∧ spn a0 i = a0.size ∧ r = a0.size + spn a1 0) ∨ (a0.size ≤ i ∧ r = a0.size + spn a1 (i - a0.size))) := by
    subst hr; subst hJ
    by_cases h1 : i < a0.size
    · by_cases h2 : spn a0 i < a0.size
      · have e := spn_cut_in a0 a1 i h1 h2
        exact Or.inl ⟨h1, by omega, by omega⟩
      · have e := spn_cut_over a0 a1 i h1 h2
        have := spn_le a0 i (by omega)
        exact Or.inr (Or.inl ⟨h1, by omega, e⟩)
    · exact Or.inr (Or.inr ⟨by omega, spn_cut_past a0 a1 i (by omega)⟩)
  clear hJ hr hz
  go_enter Try.func3, Try.ntmps3
  go_wp2_with (go_at_call 8; refine (bytes_yes _ _ _ _ hs).mono ?_; rintro e w' ⟨rfl, rfl⟩)
  rw [← HJ.out]
  refine (zspan_to J _ i r _ (by omega) (by omega) rfl HR.out).mono ?_
  rintro e w' ⟨rfl, rfl⟩
  go_wp2_with fail
  go_loop [9] (fun t => ∃ k : Nat, i ≤ k ∧ k ≤ r ∧ t = .int .i64 (k : Int)) (fun t => r - (intOf t).toNat)
  case atStart => exact ⟨i, by omega, by omega, rfl⟩
  case round =>
    obtain ⟨k, hk1, hk2, rfl⟩ := hrel
    by_cases hlt : k < r
    · have hkJ : k < J.size := by omega
      have hb := hin.out k hk1 hlt hkJ
      go_wp2_with (go_at_call 10; refine (isBlank_any _ _).mono ?_; rintro e w' ⟨rfl, rfl⟩)
      go_round
      case rel => exact ⟨k + 1, by omega, by omega, by go_num⟩
      case measure => simp [intOf]; omega
    · have fin : (∃ h : r < J.size, blk (J[r].toNat : Int) = false) ∨ ¬ r < J.size := by
        by_cases h : r < J.size
        · exact Or.inl ⟨h, hout.out h⟩
        · exact Or.inr h
      clear hin hout
      rcases fin with ⟨hrJ, hbl⟩ | hrJ
      all_goals
        rcases tl.out with ⟨t1, t2, t3⟩ | ⟨t1, t2, t3⟩ | ⟨t1, t3⟩
        · have T3 : Hid (spn a0 i = r) := t3
          clear t3
          go_wp2_with (go_at_call 10; refine (isBlank_any _ _).mono ?_; rintro e w' ⟨rfl, rfl⟩)
          refine (zspan_to a0 _ i r _ (by omega) (by omega) rfl T3.out).mono ?_
          rintro e w' ⟨rfl, rfl⟩
          go_wp2
          go_ret
          exact ⟨ret_bool (by simp), rfl⟩
        · have T2 : Hid (spn a0 i = a0.size) := t2
          obtain ⟨q, hq⟩ : ∃ q, spn a1 0 = q := ⟨_, rfl⟩
          have HQ : Hid (spn a1 0 = q) := hq
          have T3 : Hid (r = a0.size + q) := show _ = _ from by rw [t3, hq]
          have t4 : a0.size + q ≤ r := by rw [T3.out]; omega
          clear t3 t2 hq
          go_wp2_with (go_at_call 10; refine (isBlank_any _ _).mono ?_; rintro e w' ⟨rfl, rfl⟩)
          refine (zspan_to a0 _ i a0.size _ (by omega) (by omega) rfl T2.out).mono ?_
          rintro e w' ⟨rfl, rfl⟩
          go_wp2_with fail
          refine (zspan_to a1 _ 0 q _ (by omega) (by omega) rfl HQ.out).mono ?_
          rintro e w' ⟨rfl, rfl⟩
          go_wp2
          go_ret
          exact ⟨ret_bool (by have := T3.out; simp; omega), rfl⟩
        · obtain ⟨q, hq⟩ : ∃ q, spn a1 (i - a0.size) = q := ⟨_, rfl⟩
          have HQ : Hid (spn a1 (i - a0.size) = q) := hq
          have T3 : Hid (r = a0.size + q) := show _ = _ from by rw [t3, hq]
          have t4 : a0.size + q ≤ r := by rw [T3.out]; omega
          have t5 : ¬ i < a0.size := by omega
          clear t3 hq
          go_wp2_with (go_at_call 10; refine (isBlank_any _ _).mono ?_; rintro e w' ⟨rfl, rfl⟩)
          refine (zspan_to a1 _ (i - a0.size) q _ (by omega) (by omega) (by omega) HQ.out).mono ?_
          rintro e w' ⟨rfl, rfl⟩
          go_wp2
          go_ret
          exact ⟨ret_bool (by have := T3.out; simp; omega), rfl⟩

end Go.Proofs.Qxb6616330a.fnSpanWhitespaceAtAnyCut
