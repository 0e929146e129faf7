/-
  The walk of FnParseStreamDistinctNames.
-/
import Derived.Test.Qxb6617057aFmtParse
import Derived.Deep.QuietTactic
import Derived.BigQuiet
namespace Go.Proofs.Qxb6617057aFmt.fnParseStreamDistinctNames
open Go.RowKit Go.Extern.Stop Go.Stop Go.Extern

set_option maxHeartbeats 400000 in
theorem bytes_yes (a b : ByteArray) (w : World) (h : a.size + b.size ≤ 1048576) :
    Calls Tryf.prog 5 #[.string a, .string b] w fun e w' => e = .returned (.bool true) ∧ w = w' := by
  go_enter Tryf.func5, Tryf.ntmps5
  go_wp2
  go_ret
  exact ⟨rfl, rfl⟩

set_option maxHeartbeats 400000 in
theorem bytes_no (a b : ByteArray) (w : World) (ha : a.size ≤ maxLen) (hb : b.size ≤ maxLen) (h : 1048576 < a.size + b.size) :
    Calls Tryf.prog 5 #[.string a, .string b] w fun e w' => e = .returned (.bool false) ∧ w = w' := by
  unfold maxLen at ha hb
  go_enter Tryf.func5, Tryf.ntmps5
  go_wp2
  all_goals
    go_ret
    exact ⟨rfl, rfl⟩

set_option maxHeartbeats 400000 in
theorem walk_no (a b : ByteArray) (w : World) (ha : a.size ≤ maxLen) (hb : b.size ≤ maxLen) (h : 1048576 < a.size + b.size) :
    Calls Tryf.prog 3 #[.string a, .string b] w fun e w' => e = .returned (.bool true) ∧ Below w.heap.size w w' := by
  go_enter Tryf.func3, Tryf.ntmps3
  go_wp2_with (go_at_call 5; refine (bytes_no _ _ _ ha hb h).mono ?_; rintro e w' ⟨rfl, rfl⟩)
  go_ret
  exact ⟨rfl, Below.refl _ _⟩

set_option maxHeartbeats 400000 in
theorem walk_long1 (a b : ByteArray) (w : World) (h : a.size + b.size ≤ 1048576) (h1 : (65536 : Int) < a.size) :
    Calls Tryf.prog 3 #[.string a, .string b] w fun e w' => e = .returned (.bool true) ∧ Below w.heap.size w w' := by
  go_enter Tryf.func3, Tryf.ntmps3
  go_wp2_with (go_at_call 5; refine (bytes_yes _ _ _ h).mono ?_; rintro e w' ⟨rfl, rfl⟩)
  go_ret
  exact ⟨rfl, Below.refl _ _⟩

set_option maxHeartbeats 400000 in
theorem walk_long2 (a b : ByteArray) (w : World) (h : a.size + b.size ≤ 1048576) (h1 : ¬ (65536 : Int) < a.size) (h2 : (65536 : Int) < b.size) :
    Calls Tryf.prog 3 #[.string a, .string b] w fun e w' => e = .returned (.bool true) ∧ Below w.heap.size w w' := by
  go_enter Tryf.func3, Tryf.ntmps3
  go_wp2_with (go_at_call 5; refine (bytes_yes _ _ _ h).mono ?_; rintro e w' ⟨rfl, rfl⟩)
  go_ret
  exact ⟨rfl, Below.refl _ _⟩

set_option maxHeartbeats 1000000 in
theorem walk_oo_true (a b : ByteArray) (m n : Int) (w : World) (h : a.size + b.size ≤ 1048576) (h1 : ¬ (65536 : Int) < a.size) (h2 : ¬ (65536 : Int) < b.size)
    (ca : Cls a m true) (cb : Cls b n true) (ht : (a.toList == b.toList) = true) (hm : (m == n) = true) (hn : (m != n) = false) :
    Calls Tryf.prog 3 #[.string a, .string b] w fun e w' => e = .returned (.bool true) ∧ Below w.heap.size w w' := by
  have oa : Hid (m = 0 ∨ m = 1) := cls_ok ca
  have ob : Hid (n = 0 ∨ n = 1) := cls_ok cb
  go_enter Tryf.func3, Tryf.ntmps3
  go_wp2_with (go_at_call 5; refine (bytes_yes _ _ _ h).mono ?_; rintro e w' ⟨rfl, rfl⟩)
  refine (parse_ok a m _ ca).mono ?_
  rintro e w' ⟨rfl, rfl⟩
  go_wp2_with fail
  refine (parse_ok b n _ cb).mono ?_
  rintro e w' ⟨rfl, rfl⟩
  go_wp2_with fail
  refine (shape_ok m _ oa.out).mono ?_
  rintro e w' ⟨rfl, rfl⟩
  go_wp2_with fail
  refine (shape_ok n _ ob.out).mono ?_
  rintro e w' ⟨rfl, rfl⟩
  go_wp2_with fail
  go_quiet (fail)
  go_wp2
  go_ret
  exact ⟨rfl, below_drewN (Below.refl _ w) _⟩

set_option maxHeartbeats 1000000 in
theorem walk_oo_false (a b : ByteArray) (m n : Int) (w : World) (h : a.size + b.size ≤ 1048576) (h1 : ¬ (65536 : Int) < a.size) (h2 : ¬ (65536 : Int) < b.size)
    (ca : Cls a m true) (cb : Cls b n true) (ht : (a.toList == b.toList) = false) (hm : (m == n) = false) :
    Calls Tryf.prog 3 #[.string a, .string b] w fun e w' => e = .returned (.bool true) ∧ Below w.heap.size w w' := by
  have oa : Hid (m = 0 ∨ m = 1) := cls_ok ca
  have ob : Hid (n = 0 ∨ n = 1) := cls_ok cb
  go_enter Tryf.func3, Tryf.ntmps3
  go_wp2_with (go_at_call 5; refine (bytes_yes _ _ _ h).mono ?_; rintro e w' ⟨rfl, rfl⟩)
  refine (parse_ok a m _ ca).mono ?_
  rintro e w' ⟨rfl, rfl⟩
  go_wp2_with fail
  refine (parse_ok b n _ cb).mono ?_
  rintro e w' ⟨rfl, rfl⟩
  go_wp2_with fail
  refine (shape_ok m _ oa.out).mono ?_
  rintro e w' ⟨rfl, rfl⟩
  go_wp2_with fail
  refine (shape_ok n _ ob.out).mono ?_
  rintro e w' ⟨rfl, rfl⟩
  go_wp2
  go_ret
  exact ⟨rfl, (Below.refl _ w)⟩

set_option maxHeartbeats 1000000 in
theorem walk_ob_false (F : Interp) (a b : ByteArray) (m n : Int) (w : World) (hF : F.answers w.tape) (h : a.size + b.size ≤ 1048576) (h1 : ¬ (65536 : Int) < a.size) (h2 : ¬ (65536 : Int) < b.size)
    (ca : Cls a m true) (cb : Cls b n false) (ht : (a.toList == b.toList) = false) :
    Calls Tryf.prog 3 #[.string a, .string b] w fun e w' => e = .returned (.bool true) ∧ Below w.heap.size w w' := by
  have oa : Hid (m = 0 ∨ m = 1) := cls_ok ca
  have ob : Hid (n = 0) := cls_bad cb
  go_enter Tryf.func3, Tryf.ntmps3
  go_wp2_with (go_at_call 5; refine (bytes_yes _ _ _ h).mono ?_; rintro e w' ⟨rfl, rfl⟩)
  refine (parse_ok a m _ ca).mono ?_
  rintro e w' ⟨rfl, rfl⟩
  go_wp2_with fail
  refine (parse_bad F b n _ (by exact hF) cb).mono ?_
  rintro e w2 ⟨rfl, bw2⟩
  go_wp2_with fail
  refine (shape_ok m _ oa.out).mono ?_
  rintro e w' ⟨rfl, rfl⟩
  go_wp2_with fail
  refine (shape_no n _ ob.out).mono ?_
  rintro e w' ⟨rfl, rfl⟩
  go_wp2
  go_ret
  exact ⟨rfl, bw2⟩

set_option maxHeartbeats 1000000 in
theorem walk_bo_false (F : Interp) (a b : ByteArray) (m n : Int) (w : World) (hF : F.answers w.tape) (h : a.size + b.size ≤ 1048576) (h1 : ¬ (65536 : Int) < a.size) (h2 : ¬ (65536 : Int) < b.size)
    (ca : Cls a m false) (cb : Cls b n true) (ht : (a.toList == b.toList) = false) :
    Calls Tryf.prog 3 #[.string a, .string b] w fun e w' => e = .returned (.bool true) ∧ Below w.heap.size w w' := by
  have oa : Hid (m = 0) := cls_bad ca
  have ob : Hid (n = 0 ∨ n = 1) := cls_ok cb
  go_enter Tryf.func3, Tryf.ntmps3
  go_wp2_with (go_at_call 5; refine (bytes_yes _ _ _ h).mono ?_; rintro e w' ⟨rfl, rfl⟩)
  refine (parse_bad F a m _ (by exact hF) ca).mono ?_
  rintro e w1 ⟨rfl, bw1⟩
  have hF1 : F.answers w1.tape := by rw [bw1.tape]; exact hF
  go_wp2_with fail
  refine (parse_ok b n _ cb).mono ?_
  rintro e w' ⟨rfl, rfl⟩
  go_wp2_with fail
  refine (shape_no m _ oa.out).mono ?_
  rintro e w' ⟨rfl, rfl⟩
  go_wp2_with fail
  refine (shape_ok n _ ob.out).mono ?_
  rintro e w' ⟨rfl, rfl⟩
  go_wp2
  go_ret
  exact ⟨rfl, bw1⟩

set_option maxHeartbeats 1000000 in
theorem walk_bb_true (F : Interp) (a b : ByteArray) (m n : Int) (w : World) (hF : F.answers w.tape) (h : a.size + b.size ≤ 1048576) (h1 : ¬ (65536 : Int) < a.size) (h2 : ¬ (65536 : Int) < b.size)
    (ca : Cls a m false) (cb : Cls b n false) (ht : (a.toList == b.toList) = true) (hn : (m != n) = false) :
    Calls Tryf.prog 3 #[.string a, .string b] w fun e w' => e = .returned (.bool true) ∧ Below w.heap.size w w' := by
  have oa : Hid (m = 0) := cls_bad ca
  have ob : Hid (n = 0) := cls_bad cb
  go_enter Tryf.func3, Tryf.ntmps3
  go_wp2_with (go_at_call 5; refine (bytes_yes _ _ _ h).mono ?_; rintro e w' ⟨rfl, rfl⟩)
  refine (parse_bad F a m _ (by exact hF) ca).mono ?_
  rintro e w1 ⟨rfl, bw1⟩
  have hF1 : F.answers w1.tape := by rw [bw1.tape]; exact hF
  go_wp2_with fail
  refine (parse_bad F b n _ (by exact hF1) cb).mono ?_
  rintro e w2 ⟨rfl, bw2⟩
  go_wp2_with fail
  refine (shape_no m _ oa.out).mono ?_
  rintro e w' ⟨rfl, rfl⟩
  go_wp2_with fail
  refine (shape_no n _ ob.out).mono ?_
  rintro e w' ⟨rfl, rfl⟩
  go_wp2_with fail
  go_quiet (fail)
  go_wp2
  go_ret
  exact ⟨rfl, below_drewN (bw1.trans (bw2.mono bw1.size)) _⟩

set_option maxHeartbeats 1000000 in
theorem walk_bb_false (F : Interp) (a b : ByteArray) (m n : Int) (w : World) (hF : F.answers w.tape) (h : a.size + b.size ≤ 1048576) (h1 : ¬ (65536 : Int) < a.size) (h2 : ¬ (65536 : Int) < b.size)
    (ca : Cls a m false) (cb : Cls b n false) (ht : (a.toList == b.toList) = false) :
    Calls Tryf.prog 3 #[.string a, .string b] w fun e w' => e = .returned (.bool true) ∧ Below w.heap.size w w' := by
  have oa : Hid (m = 0) := cls_bad ca
  have ob : Hid (n = 0) := cls_bad cb
  go_enter Tryf.func3, Tryf.ntmps3
  go_wp2_with (go_at_call 5; refine (bytes_yes _ _ _ h).mono ?_; rintro e w' ⟨rfl, rfl⟩)
  refine (parse_bad F a m _ (by exact hF) ca).mono ?_
  rintro e w1 ⟨rfl, bw1⟩
  have hF1 : F.answers w1.tape := by rw [bw1.tape]; exact hF
  go_wp2_with fail
  refine (parse_bad F b n _ (by exact hF1) cb).mono ?_
  rintro e w2 ⟨rfl, bw2⟩
  go_wp2_with fail
  refine (shape_no m _ oa.out).mono ?_
  rintro e w' ⟨rfl, rfl⟩
  go_wp2_with fail
  refine (shape_no n _ ob.out).mono ?_
  rintro e w' ⟨rfl, rfl⟩
  go_wp2
  go_ret
  exact ⟨rfl, (bw1.trans (bw2.mono bw1.size))⟩

theorem same_ok {a b : ByteArray} {m n : Int} (ca : Cls a m true) (cb : Cls b n true) : (m == n) = (a.toList == b.toList) := by
  rw [Lib.toList_data, Lib.toList_data]
  rcases ca with ⟨_, rfl, ha⟩ | ⟨_, rfl, ha⟩ | ⟨ha, _⟩
  · rcases cb with ⟨_, rfl, hb⟩ | ⟨_, rfl, hb⟩ | ⟨hb, _⟩
    · rw [ha, hb]; rfl
    · rw [ha, hb]; rfl
    · cases hb
  · rcases cb with ⟨_, rfl, hb⟩ | ⟨_, rfl, hb⟩ | ⟨hb, _⟩
    · rw [ha, hb]; rfl
    · rw [ha, hb]; rfl
    · cases hb
  · cases ha

theorem apart_ok {a b : ByteArray} {m n : Int} (ca : Cls a m true) (cb : Cls b n false) : (a.toList == b.toList) = false := by
  rw [Lib.toList_data, Lib.toList_data]
  rcases cb with ⟨hb, _⟩ | ⟨hb, _⟩ | ⟨_, _, h1, h2⟩
  · cases hb
  · cases hb
  · rcases ca with ⟨_, _, ha⟩ | ⟨_, _, ha⟩ | ⟨ha, _⟩
    · rw [ha]; simpa using fun h => h1 h.symm
    · rw [ha]; simpa using fun h => h2 h.symm
    · cases ha

theorem walk_short (F : Interp) (a b : ByteArray) (w : World) (hF : F.answers w.tape) (h : a.size + b.size ≤ 1048576) (h1 : ¬ (65536 : Int) < a.size) (h2 : ¬ (65536 : Int) < b.size) :
    Calls Tryf.prog 3 #[.string a, .string b] w fun e w' => e = .returned (.bool true) ∧ Below w.heap.size w w' := by
  obtain ⟨m, oa, ca⟩ := cls_some a
  obtain ⟨n, ob, cb⟩ := cls_some b
  cases oa with
  | true =>
    cases ob with
    | true =>
      have e := same_ok ca cb
      cases ht : (a.toList == b.toList) with
      | true => rw [ht] at e; exact walk_oo_true a b m n w h h1 h2 ca cb ht e (by simp only [bne, e]; rfl)
      | false => rw [ht] at e; exact walk_oo_false a b m n w h h1 h2 ca cb ht e
    | false => exact walk_ob_false F a b m n w hF h h1 h2 ca cb (apart_ok ca cb)
  | false =>
    cases ob with
    | true => exact walk_bo_false F a b m n w hF h h1 h2 ca cb (by have := apart_ok cb ca; rw [Bool.beq_comm] at this; exact this)
    | false =>
      have e1 := cls_bad ca
      have e2 := cls_bad cb
      cases ht : (a.toList == b.toList) with
      | true => exact walk_bb_true F a b m n w hF h h1 h2 ca cb ht (by rw [e1, e2]; rfl)
      | false => exact walk_bb_false F a b m n w hF h h1 h2 ca cb ht

theorem walk (F : Interp) (a b : ByteArray) (w : World) (hF : F.answers w.tape) (w0 : a.size ≤ maxLen) (w1 : b.size ≤ maxLen) :
    Calls Tryf.prog 3 #[.string a, .string b] w fun e w' => e = .returned (.bool true) ∧ Below w.heap.size w w' := by
  by_cases h : a.size + b.size ≤ 1048576
  · by_cases h1 : (65536 : Int) < a.size
    · exact walk_long1 a b w h h1
    · by_cases h2 : (65536 : Int) < b.size
      · exact walk_long2 a b w h h1 h2
      · exact walk_short F a b w hF h h1 h2
  · exact walk_no a b w w0 w1 (by omega)

end Go.Proofs.Qxb6617057aFmt.fnParseStreamDistinctNames
