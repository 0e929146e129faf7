/-
  The walk of FnParseStreamExactName.
-/
import Derived.Test.Qxb6617057aFmtParse
import Derived.Deep.QuietTactic
import Derived.BigQuiet
namespace Go.Proofs.Qxb6617057aFmt.fnParseStreamExactName
open Go.RowKit Go.Extern.Stop Go.Stop Go.Extern

set_option maxHeartbeats 400000 in
theorem bytes_yes (a x : ByteArray) (w : World) (h : a.size + x.size ≤ 1048576) :
    Calls Tryf.prog 8 #[.string a, .string x] w fun e w' => e = .returned (.bool true) ∧ w = w' := by
  go_enter Tryf.func8, Tryf.ntmps8
  go_wp2
  go_ret
  exact ⟨rfl, rfl⟩

set_option maxHeartbeats 400000 in
theorem bytes_no (a x : ByteArray) (w : World) (ha : a.size ≤ maxLen) (hb : x.size ≤ maxLen) (h : 1048576 < a.size + x.size) :
    Calls Tryf.prog 8 #[.string a, .string x] w fun e w' => e = .returned (.bool false) ∧ w = w' := by
  unfold maxLen at ha hb
  go_enter Tryf.func8, Tryf.ntmps8
  go_wp2
  all_goals
    go_ret
    exact ⟨rfl, rfl⟩

set_option maxHeartbeats 400000 in
theorem walk_no (a x : ByteArray) (w : World) (ha : a.size ≤ maxLen) (hb : x.size ≤ maxLen) (h : 1048576 < a.size + x.size) :
    Calls Tryf.prog 4 #[.string a, .string x] w fun e w' => e = .returned (.bool true) ∧ Below w.heap.size w w' := by
  go_enter Tryf.func4, Tryf.ntmps4
  go_wp2_with (go_at_call 8; refine (bytes_no _ _ _ ha hb h).mono ?_; rintro e w' ⟨rfl, rfl⟩)
  go_ret
  exact ⟨rfl, Below.refl _ _⟩

set_option maxHeartbeats 400000 in
theorem walk_long1 (a x : ByteArray) (w : World) (h : a.size + x.size ≤ 1048576) (h1 : (65536 : Int) < a.size) :
    Calls Tryf.prog 4 #[.string a, .string x] w fun e w' => e = .returned (.bool true) ∧ Below w.heap.size w w' := by
  go_enter Tryf.func4, Tryf.ntmps4
  go_wp2_with (go_at_call 8; refine (bytes_yes _ _ _ h).mono ?_; rintro e w' ⟨rfl, rfl⟩)
  go_ret
  exact ⟨rfl, Below.refl _ _⟩

set_option maxHeartbeats 400000 in
theorem walk_long2 (a x : ByteArray) (w : World) (h : a.size + x.size ≤ 1048576) (h1 : ¬ (65536 : Int) < a.size) (h2 : (65536 : Int) < x.size) :
    Calls Tryf.prog 4 #[.string a, .string x] w fun e w' => e = .returned (.bool true) ∧ Below w.heap.size w w' := by
  go_enter Tryf.func4, Tryf.ntmps4
  go_wp2_with (go_at_call 8; refine (bytes_yes _ _ _ h).mono ?_; rintro e w' ⟨rfl, rfl⟩)
  go_ret
  exact ⟨rfl, Below.refl _ _⟩

set_option maxHeartbeats 1000000 in
theorem walk_ooo_empty (a x : ByteArray) (m : Int) (w : World) (h : a.size + x.size ≤ 1048576) (h1 : ¬ (65536 : Int) < a.size) (h2 : ¬ (65536 : Int) < x.size) (hx : ((x.size : Int) == 0) = true)
    (c0 : Cls a m true) (c1 : Cls (a ++ x) m true) (c2 : Cls (x ++ a) m true) :
    Calls Tryf.prog 4 #[.string a, .string x] w fun e w' => e = .returned (.bool true) ∧ Below w.heap.size w w' := by
  have o0 : Hid (m = 0 ∨ m = 1) := cls_ok c0
  have o1 : Hid (m = 0 ∨ m = 1) := cls_ok c1
  have o2 : Hid (m = 0 ∨ m = 1) := cls_ok c2
  go_enter Tryf.func4, Tryf.ntmps4
  go_wp2_with (go_at_call 8; refine (bytes_yes _ _ _ h).mono ?_; rintro e w' ⟨rfl, rfl⟩)
  refine (parse_ok a m _ c0).mono ?_
  rintro e w' ⟨rfl, rfl⟩
  go_wp2_with fail
  refine (parse_ok (a ++ x) m _ c1).mono ?_
  rintro e w' ⟨rfl, rfl⟩
  go_wp2_with fail
  refine (parse_ok (x ++ a) m _ c2).mono ?_
  rintro e w' ⟨rfl, rfl⟩
  go_wp2_with fail
  refine (shape_ok m _ o0.out).mono ?_
  rintro e w' ⟨rfl, rfl⟩
  go_wp2_with fail
  refine (shape_ok m _ o1.out).mono ?_
  rintro e w' ⟨rfl, rfl⟩
  go_wp2_with fail
  refine (shape_ok m _ o2.out).mono ?_
  rintro e w' ⟨rfl, rfl⟩
  go_wp2_with fail
  go_quiet (fail)
  go_wp2_with fail
  go_quiet (fail)
  go_wp2
  go_ret
  exact ⟨rfl, below_drewN (below_drewN (Below.refl _ w) _) _⟩

set_option maxHeartbeats 1000000 in
theorem walk_bbb_empty (F : Interp) (a x : ByteArray) (m : Int) (w : World) (hF : F.answers w.tape) (h : a.size + x.size ≤ 1048576) (h1 : ¬ (65536 : Int) < a.size) (h2 : ¬ (65536 : Int) < x.size) (hx : ((x.size : Int) == 0) = true)
    (c0 : Cls a m false) (c1 : Cls (a ++ x) m false) (c2 : Cls (x ++ a) m false) :
    Calls Tryf.prog 4 #[.string a, .string x] w fun e w' => e = .returned (.bool true) ∧ Below w.heap.size w w' := by
  have o0 : Hid (m = 0) := cls_bad c0
  have o1 : Hid (m = 0) := cls_bad c1
  have o2 : Hid (m = 0) := cls_bad c2
  go_enter Tryf.func4, Tryf.ntmps4
  go_wp2_with (go_at_call 8; refine (bytes_yes _ _ _ h).mono ?_; rintro e w' ⟨rfl, rfl⟩)
  refine (parse_bad F a m _ (by exact hF) c0).mono ?_
  rintro e w1 ⟨rfl, b1⟩
  have B1 : Below w.heap.size w w1 := b1
  have hF1 : F.answers w1.tape := by rw [B1.tape]; exact hF
  go_wp2_with fail
  refine (parse_bad F (a ++ x) m _ (by exact hF1) c1).mono ?_
  rintro e w2 ⟨rfl, b2⟩
  have B2 : Below w.heap.size w w2 := B1.trans (b2.mono B1.size)
  have hF2 : F.answers w2.tape := by rw [B2.tape]; exact hF
  go_wp2_with fail
  refine (parse_bad F (x ++ a) m _ (by exact hF2) c2).mono ?_
  rintro e w3 ⟨rfl, b3⟩
  have B3 : Below w.heap.size w w3 := B2.trans (b3.mono B2.size)
  go_wp2_with fail
  refine (shape_no m _ o0.out).mono ?_
  rintro e w' ⟨rfl, rfl⟩
  go_wp2_with fail
  refine (shape_no m _ o1.out).mono ?_
  rintro e w' ⟨rfl, rfl⟩
  go_wp2_with fail
  refine (shape_no m _ o2.out).mono ?_
  rintro e w' ⟨rfl, rfl⟩
  go_wp2_with fail
  go_quiet (fail)
  go_wp2_with fail
  go_quiet (fail)
  go_wp2
  go_ret
  exact ⟨rfl, below_drewN (below_drewN B3 _) _⟩

set_option maxHeartbeats 1000000 in
theorem walk_obb_more (F : Interp) (a x : ByteArray) (m n k : Int) (w : World) (hF : F.answers w.tape) (h : a.size + x.size ≤ 1048576) (h1 : ¬ (65536 : Int) < a.size) (h2 : ¬ (65536 : Int) < x.size) (hx : ((x.size : Int) == 0) = false)
    (c0 : Cls a m true) (c1 : Cls (a ++ x) n false) (c2 : Cls (x ++ a) k false) :
    Calls Tryf.prog 4 #[.string a, .string x] w fun e w' => e = .returned (.bool true) ∧ Below w.heap.size w w' := by
  have o0 : Hid (m = 0 ∨ m = 1) := cls_ok c0
  have o1 : Hid (n = 0) := cls_bad c1
  have o2 : Hid (k = 0) := cls_bad c2
  go_enter Tryf.func4, Tryf.ntmps4
  go_wp2_with (go_at_call 8; refine (bytes_yes _ _ _ h).mono ?_; rintro e w' ⟨rfl, rfl⟩)
  refine (parse_ok a m _ c0).mono ?_
  rintro e w' ⟨rfl, rfl⟩
  go_wp2_with fail
  refine (parse_bad F (a ++ x) n _ (by exact hF) c1).mono ?_
  rintro e w2 ⟨rfl, b2⟩
  have B2 : Below w.heap.size w w2 := b2
  have hF2 : F.answers w2.tape := by rw [B2.tape]; exact hF
  go_wp2_with fail
  refine (parse_bad F (x ++ a) k _ (by exact hF2) c2).mono ?_
  rintro e w3 ⟨rfl, b3⟩
  have B3 : Below w.heap.size w w3 := B2.trans (b3.mono B2.size)
  go_wp2_with fail
  refine (shape_ok m _ o0.out).mono ?_
  rintro e w' ⟨rfl, rfl⟩
  go_wp2_with fail
  refine (shape_no n _ o1.out).mono ?_
  rintro e w' ⟨rfl, rfl⟩
  go_wp2_with fail
  refine (shape_no k _ o2.out).mono ?_
  rintro e w' ⟨rfl, rfl⟩
  go_wp2
  go_ret
  exact ⟨rfl, B3⟩

set_option maxHeartbeats 1000000 in
theorem walk_boo_more (F : Interp) (a x : ByteArray) (m n k : Int) (w : World) (hF : F.answers w.tape) (h : a.size + x.size ≤ 1048576) (h1 : ¬ (65536 : Int) < a.size) (h2 : ¬ (65536 : Int) < x.size) (hx : ((x.size : Int) == 0) = false)
    (c0 : Cls a m false) (c1 : Cls (a ++ x) n true) (c2 : Cls (x ++ a) k true) :
    Calls Tryf.prog 4 #[.string a, .string x] w fun e w' => e = .returned (.bool true) ∧ Below w.heap.size w w' := by
  have o0 : Hid (m = 0) := cls_bad c0
  have o1 : Hid (n = 0 ∨ n = 1) := cls_ok c1
  have o2 : Hid (k = 0 ∨ k = 1) := cls_ok c2
  go_enter Tryf.func4, Tryf.ntmps4
  go_wp2_with (go_at_call 8; refine (bytes_yes _ _ _ h).mono ?_; rintro e w' ⟨rfl, rfl⟩)
  refine (parse_bad F a m _ (by exact hF) c0).mono ?_
  rintro e w1 ⟨rfl, b1⟩
  have B1 : Below w.heap.size w w1 := b1
  go_wp2_with fail
  refine (parse_ok (a ++ x) n _ c1).mono ?_
  rintro e w' ⟨rfl, rfl⟩
  go_wp2_with fail
  refine (parse_ok (x ++ a) k _ c2).mono ?_
  rintro e w' ⟨rfl, rfl⟩
  go_wp2_with fail
  refine (shape_no m _ o0.out).mono ?_
  rintro e w' ⟨rfl, rfl⟩
  go_wp2_with fail
  refine (shape_ok n _ o1.out).mono ?_
  rintro e w' ⟨rfl, rfl⟩
  go_wp2_with fail
  refine (shape_ok k _ o2.out).mono ?_
  rintro e w' ⟨rfl, rfl⟩
  go_wp2
  go_ret
  exact ⟨rfl, B1⟩

set_option maxHeartbeats 1000000 in
theorem walk_bob_more (F : Interp) (a x : ByteArray) (m n k : Int) (w : World) (hF : F.answers w.tape) (h : a.size + x.size ≤ 1048576) (h1 : ¬ (65536 : Int) < a.size) (h2 : ¬ (65536 : Int) < x.size) (hx : ((x.size : Int) == 0) = false)
    (c0 : Cls a m false) (c1 : Cls (a ++ x) n true) (c2 : Cls (x ++ a) k false) :
    Calls Tryf.prog 4 #[.string a, .string x] w fun e w' => e = .returned (.bool true) ∧ Below w.heap.size w w' := by
  have o0 : Hid (m = 0) := cls_bad c0
  have o1 : Hid (n = 0 ∨ n = 1) := cls_ok c1
  have o2 : Hid (k = 0) := cls_bad c2
  go_enter Tryf.func4, Tryf.ntmps4
  go_wp2_with (go_at_call 8; refine (bytes_yes _ _ _ h).mono ?_; rintro e w' ⟨rfl, rfl⟩)
  refine (parse_bad F a m _ (by exact hF) c0).mono ?_
  rintro e w1 ⟨rfl, b1⟩
  have B1 : Below w.heap.size w w1 := b1
  have hF1 : F.answers w1.tape := by rw [B1.tape]; exact hF
  go_wp2_with fail
  refine (parse_ok (a ++ x) n _ c1).mono ?_
  rintro e w' ⟨rfl, rfl⟩
  go_wp2_with fail
  refine (parse_bad F (x ++ a) k _ (by exact hF1) c2).mono ?_
  rintro e w3 ⟨rfl, b3⟩
  have B3 : Below w.heap.size w w3 := B1.trans (b3.mono B1.size)
  go_wp2_with fail
  refine (shape_no m _ o0.out).mono ?_
  rintro e w' ⟨rfl, rfl⟩
  go_wp2_with fail
  refine (shape_ok n _ o1.out).mono ?_
  rintro e w' ⟨rfl, rfl⟩
  go_wp2_with fail
  refine (shape_no k _ o2.out).mono ?_
  rintro e w' ⟨rfl, rfl⟩
  go_wp2
  go_ret
  exact ⟨rfl, B3⟩

set_option maxHeartbeats 1000000 in
theorem walk_bbo_more (F : Interp) (a x : ByteArray) (m n k : Int) (w : World) (hF : F.answers w.tape) (h : a.size + x.size ≤ 1048576) (h1 : ¬ (65536 : Int) < a.size) (h2 : ¬ (65536 : Int) < x.size) (hx : ((x.size : Int) == 0) = false)
    (c0 : Cls a m false) (c1 : Cls (a ++ x) n false) (c2 : Cls (x ++ a) k true) :
    Calls Tryf.prog 4 #[.string a, .string x] w fun e w' => e = .returned (.bool true) ∧ Below w.heap.size w w' := by
  have o0 : Hid (m = 0) := cls_bad c0
  have o1 : Hid (n = 0) := cls_bad c1
  have o2 : Hid (k = 0 ∨ k = 1) := cls_ok c2
  go_enter Tryf.func4, Tryf.ntmps4
  go_wp2_with (go_at_call 8; refine (bytes_yes _ _ _ h).mono ?_; rintro e w' ⟨rfl, rfl⟩)
  refine (parse_bad F a m _ (by exact hF) c0).mono ?_
  rintro e w1 ⟨rfl, b1⟩
  have B1 : Below w.heap.size w w1 := b1
  have hF1 : F.answers w1.tape := by rw [B1.tape]; exact hF
  go_wp2_with fail
  refine (parse_bad F (a ++ x) n _ (by exact hF1) c1).mono ?_
  rintro e w2 ⟨rfl, b2⟩
  have B2 : Below w.heap.size w w2 := B1.trans (b2.mono B1.size)
  go_wp2_with fail
  refine (parse_ok (x ++ a) k _ c2).mono ?_
  rintro e w' ⟨rfl, rfl⟩
  go_wp2_with fail
  refine (shape_no m _ o0.out).mono ?_
  rintro e w' ⟨rfl, rfl⟩
  go_wp2_with fail
  refine (shape_no n _ o1.out).mono ?_
  rintro e w' ⟨rfl, rfl⟩
  go_wp2_with fail
  refine (shape_ok k _ o2.out).mono ?_
  rintro e w' ⟨rfl, rfl⟩
  go_wp2
  go_ret
  exact ⟨rfl, B2⟩

set_option maxHeartbeats 1000000 in
theorem walk_bbb_more (F : Interp) (a x : ByteArray) (m n k : Int) (w : World) (hF : F.answers w.tape) (h : a.size + x.size ≤ 1048576) (h1 : ¬ (65536 : Int) < a.size) (h2 : ¬ (65536 : Int) < x.size) (hx : ((x.size : Int) == 0) = false)
    (c0 : Cls a m false) (c1 : Cls (a ++ x) n false) (c2 : Cls (x ++ a) k false) :
    Calls Tryf.prog 4 #[.string a, .string x] w fun e w' => e = .returned (.bool true) ∧ Below w.heap.size w w' := by
  have o0 : Hid (m = 0) := cls_bad c0
  have o1 : Hid (n = 0) := cls_bad c1
  have o2 : Hid (k = 0) := cls_bad c2
  go_enter Tryf.func4, Tryf.ntmps4
  go_wp2_with (go_at_call 8; refine (bytes_yes _ _ _ h).mono ?_; rintro e w' ⟨rfl, rfl⟩)
  refine (parse_bad F a m _ (by exact hF) c0).mono ?_
  rintro e w1 ⟨rfl, b1⟩
  have B1 : Below w.heap.size w w1 := b1
  have hF1 : F.answers w1.tape := by rw [B1.tape]; exact hF
  go_wp2_with fail
  refine (parse_bad F (a ++ x) n _ (by exact hF1) c1).mono ?_
  rintro e w2 ⟨rfl, b2⟩
  have B2 : Below w.heap.size w w2 := B1.trans (b2.mono B1.size)
  have hF2 : F.answers w2.tape := by rw [B2.tape]; exact hF
  go_wp2_with fail
  refine (parse_bad F (x ++ a) k _ (by exact hF2) c2).mono ?_
  rintro e w3 ⟨rfl, b3⟩
  have B3 : Below w.heap.size w w3 := B2.trans (b3.mono B2.size)
  go_wp2_with fail
  refine (shape_no m _ o0.out).mono ?_
  rintro e w' ⟨rfl, rfl⟩
  go_wp2_with fail
  refine (shape_no n _ o1.out).mono ?_
  rintro e w' ⟨rfl, rfl⟩
  go_wp2_with fail
  refine (shape_no k _ o2.out).mono ?_
  rintro e w' ⟨rfl, rfl⟩
  go_wp2
  go_ret
  exact ⟨rfl, B3⟩

theorem cls_congr {s t : ByteArray} {n : Int} {ok : Bool} (e : s.data.toList = t.data.toList) (h : Cls s n ok) : Cls t n ok := by
  unfold Cls at *
  rw [← e]; exact h

theorem app_data (a b : ByteArray) : (a ++ b).data.toList = a.data.toList ++ b.data.toList := by simp

theorem no_tail (l x : List UInt8) (hx : 0 < x.length) (h : l = [100, 111, 119, 110, 115, 116, 114, 101, 97, 109] ∨ l = [117, 112, 115, 116, 114, 101, 97, 109]) :
    l ++ x ≠ [100, 111, 119, 110, 115, 116, 114, 101, 97, 109] ∧ l ++ x ≠ [117, 112, 115, 116, 114, 101, 97, 109] := by
  rcases h with rfl | rfl
  · refine ⟨fun h => ?_, fun h => ?_⟩
    · have := congrArg List.length h; simp at this; subst this; simp at hx
    · simp at h
  · refine ⟨fun h => ?_, fun h => ?_⟩
    · simp at h
    · have := congrArg List.length h; simp at this; subst this; simp at hx

theorem no_head (l x : List UInt8) (hx : 0 < x.length) (h : l = [100, 111, 119, 110, 115, 116, 114, 101, 97, 109] ∨ l = [117, 112, 115, 116, 114, 101, 97, 109]) :
    x ++ l ≠ [100, 111, 119, 110, 115, 116, 114, 101, 97, 109] ∧ x ++ l ≠ [117, 112, 115, 116, 114, 101, 97, 109] := by
  rcases h with rfl | rfl
  · refine ⟨fun h => ?_, fun h => ?_⟩
    · have := congrArg List.length h; simp at this; subst this; simp at hx
    · have := congrArg List.length h; simp at this
  · refine ⟨fun h => ?_, fun h => ?_⟩
    · have hl := congrArg List.length h
      simp at hl
      match x, hl with
      | [p, q], _ => simp at h
    · have := congrArg List.length h; simp at this; subst this; simp at hx

theorem cls_names {s : ByteArray} {n : Int} (h : Cls s n true) : s.data.toList = [100, 111, 119, 110, 115, 116, 114, 101, 97, 109] ∨ s.data.toList = [117, 112, 115, 116, 114, 101, 97, 109] := by
  rcases h with ⟨_, _, h⟩ | ⟨_, _, h⟩ | ⟨h, _⟩
  · exact Or.inl h
  · exact Or.inr h
  · cases h

theorem cls_tail (a x : ByteArray) (m : Int) (hx : 0 < x.size) (h : Cls a m true) : Cls (a ++ x) 0 false := by
  have := no_tail a.data.toList x.data.toList (by rw [← Lib.size_eq]; exact hx) (cls_names h)
  refine Or.inr (Or.inr ⟨rfl, rfl, ?_, ?_⟩)
  · rw [app_data]; exact this.1
  · rw [app_data]; exact this.2

theorem cls_head (a x : ByteArray) (m : Int) (hx : 0 < x.size) (h : Cls a m true) : Cls (x ++ a) 0 false := by
  have := no_head a.data.toList x.data.toList (by rw [← Lib.size_eq]; exact hx) (cls_names h)
  refine Or.inr (Or.inr ⟨rfl, rfl, ?_, ?_⟩)
  · rw [app_data]; exact this.1
  · rw [app_data]; exact this.2

theorem walk_short (F : Interp) (a x : ByteArray) (w : World) (hF : F.answers w.tape) (h : a.size + x.size ≤ 1048576) (h1 : ¬ (65536 : Int) < a.size) (h2 : ¬ (65536 : Int) < x.size) :
    Calls Tryf.prog 4 #[.string a, .string x] w fun e w' => e = .returned (.bool true) ∧ Below w.heap.size w w' := by
  obtain ⟨m, o0, c0⟩ := cls_some a
  by_cases hx : x.size = 0
  · have hx' : ((x.size : Int) == 0) = true := by simpa using hx
    have hn : x.data.toList = [] := List.eq_nil_of_length_eq_zero (by rw [← Lib.size_eq]; exact hx)
    have c1 : Cls (a ++ x) m o0 := cls_congr (by rw [app_data, hn, List.append_nil]) c0
    have c2 : Cls (x ++ a) m o0 := cls_congr (by rw [app_data, hn, List.nil_append]) c0
    cases o0 with
    | true => exact walk_ooo_empty a x m w h h1 h2 hx' c0 c1 c2
    | false => exact walk_bbb_empty F a x m w hF h h1 h2 hx' c0 c1 c2
  · have hx' : ((x.size : Int) == 0) = false := by simpa using hx
    cases o0 with
    | true => exact walk_obb_more F a x m 0 0 w hF h h1 h2 hx' c0 (cls_tail a x m (by omega) c0) (cls_head a x m (by omega) c0)
    | false =>
      obtain ⟨n, o1, c1⟩ := cls_some (a ++ x)
      obtain ⟨k, o2, c2⟩ := cls_some (x ++ a)
      cases o1 with
      | true =>
        cases o2 with
        | true => exact walk_boo_more F a x m n k w hF h h1 h2 hx' c0 c1 c2
        | false => exact walk_bob_more F a x m n k w hF h h1 h2 hx' c0 c1 c2
      | false =>
        cases o2 with
        | true => exact walk_bbo_more F a x m n k w hF h h1 h2 hx' c0 c1 c2
        | false => exact walk_bbb_more F a x m n k w hF h h1 h2 hx' c0 c1 c2

theorem walk (F : Interp) (a x : ByteArray) (w : World) (hF : F.answers w.tape) (w0 : a.size ≤ maxLen) (w1 : x.size ≤ maxLen) :
    Calls Tryf.prog 4 #[.string a, .string x] w fun e w' => e = .returned (.bool true) ∧ Below w.heap.size w w' := by
  by_cases h : a.size + x.size ≤ 1048576
  · by_cases h1 : (65536 : Int) < a.size
    · exact walk_long1 a x w h h1
    · by_cases h2 : (65536 : Int) < x.size
      · exact walk_long2 a x w h h1 h2
      · exact walk_short F a x w hF h h1 h2
  · exact walk_no a x w w0 w1 (by omega)

end Go.Proofs.Qxb6617057aFmt.fnParseStreamExactName
