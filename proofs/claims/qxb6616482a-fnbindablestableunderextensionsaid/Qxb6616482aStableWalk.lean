/-
  The walk of FnBindableStableUnderExtension.
-/
import Derived.Test.Qxb6616482aBind
import Derived.OpenShut
namespace Go.Proofs.Qxb6616482a.fnBindableStableUnderExtension
open Go.RowKit

set_option maxHeartbeats 400000 in
theorem bytes_yes (a b : ByteArray) (i j : Int) (w : World) (h : a.size + b.size ≤ 1048576) :
    Calls Try.prog 8 #[.string a, .string b, .int .i64 i, .int .i64 j] w fun e w' => e = .returned (.bool true) ∧ w = w' := by
  go_enter Try.func8, Try.ntmps8
  go_wp2
  go_ret
  exact ⟨rfl, rfl⟩

set_option maxHeartbeats 400000 in
theorem bytes_no (a b : ByteArray) (i j : Int) (w : World) (ha : a.size ≤ maxLen) (hb : b.size ≤ maxLen) (h : 1048576 < a.size + b.size) :
    Calls Try.prog 8 #[.string a, .string b, .int .i64 i, .int .i64 j] w fun e w' => e = .returned (.bool false) ∧ w = w' := by
  unfold maxLen at ha hb
  go_enter Try.func8, Try.ntmps8
  go_wp2
  all_goals
    go_ret
    exact ⟨rfl, rfl⟩

set_option maxHeartbeats 400000 in
theorem walk_no (a b : ByteArray) (i j : Int) (w : World) (ha : a.size ≤ maxLen) (hb : b.size ≤ maxLen) (h : 1048576 < a.size + b.size) :
    Calls Try.prog 4 #[.string a, .string b, .int .i64 i, .int .i64 j] w fun e w' => e = .returned (.bool true) ∧ Grown w w' := by
  go_enter Try.func4, Try.ntmps4
  go_wp2_with (go_at_call 8; refine (bytes_no _ _ _ _ _ ha hb h).mono ?_; rintro e w' ⟨rfl, rfl⟩)
  go_ret
  exact ⟨rfl, Grown.refl _⟩

set_option maxHeartbeats 400000 in
theorem walk_empty (a b : ByteArray) (i j : Int) (w : World) (h : a.size + b.size ≤ 1048576) (h0 : a.size ≤ 0) :
    Calls Try.prog 4 #[.string a, .string b, .int .i64 i, .int .i64 j] w fun e w' => e = .returned (.bool true) ∧ Grown w w' := by
  have g1 : ¬ (1048576 : Int) < a.size := by omega
  go_enter Try.func4, Try.ntmps4
  go_wp2_with (go_at_call 8; refine (bytes_yes _ _ _ _ _ h).mono ?_; rintro e w' ⟨rfl, rfl⟩)
  go_ret
  exact ⟨rfl, Grown.refl _⟩

theorem data_app (a b : ByteArray) : (a ++ b).data.toList = a.data.toList ++ b.data.toList := by simp
theorem size_app (a b : ByteArray) (h : a.size + b.size ≤ 1048576) : (a ++ b).size ≤ maxLen := by
  unfold maxLen; rw [Lib.size_eq, data_app, List.length_append, ← Lib.size_eq, ← Lib.size_eq]; omega

theorem bnd_under (a : ByteArray) (h : (a.toList == [95]) = true) : bnd a = false := by unfold bnd; rw [h]; simp
theorem bnd_under_app (a b : ByteArray) (h : (a.toList == [95]) = true) : bnd (a ++ b) = decide (0 < b.size) := by
  have h : a.data.toList = [95] := by rw [Lib.toList_data] at h; simpa using h
  unfold bnd pre
  rw [Lib.toList_data, data_app, h, Lib.size_eq b]
  cases b.data.toList <;> simp

theorem pre_first (a : ByteArray) (h : 0 < a.size) : pre a 35 = !((a[0].toNat : Int) != 35) := by
  unfold pre
  have e : a.data.toList.head? = some a[0] := by
    rw [List.head?_eq_getElem?, List.getElem?_eq_getElem (by simpa using h)]; rfl
  rw [e, Bool.eq_iff_iff]
  simp only [beq_iff_eq, Option.some.injEq, Bool.not_eq_true', bne_eq_false_iff_eq]
  constructor
  · intro h; rw [h]; rfl
  · intro h; exact UInt8.toNat_inj.1 (by have : a[0].toNat = 35 := by omega
                                         rw [this]; rfl)

theorem bnd_first (a : ByteArray) (h : 0 < a.size) (hu : (a.toList == [95]) = false) : bnd a = ((a[0].toNat : Int) != 35) := by
  unfold bnd; rw [hu, pre_first a h]; simp

theorem bnd_app (a b : ByteArray) (h : 0 < a.size) (hu : (a.toList == [95]) = false) : bnd (a ++ b) = bnd a := by
  unfold bnd pre
  rw [hu]
  rw [Lib.toList_data] at hu
  rw [Lib.toList_data, data_app]
  rw [Lib.size_eq] at h
  revert h hu
  generalize a.data.toList = l
  intro h hu
  cases l with
  | nil => simp at h
  | cons c l =>
    cases l with
    | nil => simp at hu ⊢; exact fun _ => Or.inl hu
    | cons d l => simp

set_option maxHeartbeats 1000000 in
theorem walk_main (a b : ByteArray) (i j : Int) (w : World) (h : a.size + b.size ≤ 1048576) (h0 : 0 < a.size) (u r : Bool) (hu : (a.toList == [95]) = u)
    (sA : a.size ≤ maxLen) (bA : bnd a = r) (hf : u = false → ((a[0].toNat : Int) != 35) = r) (ht : u = true → r = false) (q : Bool) (hq : bnd (a ++ b) = q) (hq1 : u = true → decide (0 < b.size) = q) (hq2 : u = false → q = r) :
    Calls Try.prog 4 #[.string a, .string b, .int .i64 i, .int .i64 j] w fun e w' => e = .returned (.bool true) ∧ Grown w w' := by
  have g1 : ¬ (1048576 : Int) < a.size := by omega
  obtain ⟨Y, hY⟩ : ∃ Y, Y = a ++ b := ⟨_, rfl⟩
  have sY : Y.size ≤ maxLen := by rw [hY]; exact size_app a b h
  have bY : bnd Y = q := by rw [hY]; exact hq
  have HY : Hid (Y = a ++ b) := hY
  have BA : Hid (bnd a = r) := bA
  have BY : Hid (bnd Y = q) := bY
  clear hY bA bY hq
  cases u with
  | true =>
    have e1 := hq1 rfl
    have e2 := ht rfl
    clear hf ht hq1 hq2
    subst e2
    go_enter Try.func4, Try.ntmps4
    go_wp2_with (go_at_call 8; refine (bytes_yes _ _ _ _ _ h).mono ?_; rintro e w' ⟨rfl, rfl⟩)
    rw [← HY.out]
    obtain ⟨W, hW⟩ : ∃ W, W = ((w.alloc (.cells #[.int .i64 i, .int .i64 j, .string a] 27)).alloc (.cells #[.int .i64 i, .int .i64 j, .string Y] 27)) := ⟨_, rfl⟩
    have hg : Grown w W := by rw [hW]; exact ((Grown.refl _).alloc _ _).alloc _ _
    have hc1 : W.cell? ⟨w.heap.size, 2, none⟩ = some (.string a) := by rw [hW]; go_simp
    have hc2 : W.cell? ⟨w.heap.size + 1, 2, none⟩ = some (.string Y) := by rw [hW]; go_simp
    rw [← hW]
    clear hW
    refine (bind_to _ a false W sA hc1 BA.out).mono ?_
    rintro e w' ⟨rfl, rfl⟩
    go_wp2_with fail
    refine (bind_to _ Y q W sY hc2 BY.out).mono ?_
    rintro e w' ⟨rfl, rfl⟩
    go_wp2
    go_ret
    exact ⟨rfl, hg⟩
  | false =>
    have e1 := hf rfl
    have e2 := hq2 rfl
    clear hf ht hq1 hq2
    subst e2
    go_enter Try.func4, Try.ntmps4
    go_wp2_with (go_at_call 8; refine (bytes_yes _ _ _ _ _ h).mono ?_; rintro e w' ⟨rfl, rfl⟩)
    rw [← HY.out]
    obtain ⟨W, hW⟩ : ∃ W, W = ((w.alloc (.cells #[.int .i64 i, .int .i64 j, .string a] 27)).alloc (.cells #[.int .i64 i, .int .i64 j, .string Y] 27)) := ⟨_, rfl⟩
    have hg : Grown w W := by rw [hW]; exact ((Grown.refl _).alloc _ _).alloc _ _
    have hc1 : W.cell? ⟨w.heap.size, 2, none⟩ = some (.string a) := by rw [hW]; go_simp
    have hc2 : W.cell? ⟨w.heap.size + 1, 2, none⟩ = some (.string Y) := by rw [hW]; go_simp
    rw [← hW]
    clear hW
    refine (bind_to _ a q W sA hc1 BA.out).mono ?_
    rintro e w' ⟨rfl, rfl⟩
    go_wp2_with fail
    refine (bind_to _ Y q W sY hc2 BY.out).mono ?_
    rintro e w' ⟨rfl, rfl⟩
    go_wp2
    go_ret
    exact ⟨rfl, hg⟩

theorem walk_yes (a b : ByteArray) (i j : Int) (w : World) (h : a.size + b.size ≤ 1048576) (h0 : 0 < a.size) (sA : a.size ≤ maxLen) :
    Calls Try.prog 4 #[.string a, .string b, .int .i64 i, .int .i64 j] w fun e w' => e = .returned (.bool true) ∧ Grown w w' :=
  walk_main a b i j w h h0 _ _ rfl sA rfl (fun hu => (bnd_first a h0 hu).symm) (fun hu => bnd_under a hu) _ rfl (fun hu => (bnd_under_app a b hu).symm) (fun hu => bnd_app a b h0 hu)

end Go.Proofs.Qxb6616482a.fnBindableStableUnderExtension
