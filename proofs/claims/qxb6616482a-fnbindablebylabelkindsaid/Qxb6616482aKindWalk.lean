/-
  The walk of FnBindableByLabelKind.
-/
import Derived.Test.Qxb6616482aBind
import Derived.OpenShut
namespace Go.Proofs.Qxb6616482a.fnBindableByLabelKind
open Go.RowKit

set_option maxHeartbeats 400000 in
theorem bytes_yes (s : ByteArray) (i j : Int) (w : World) (h : s.size ≤ 1048576) :
    Calls Try.prog 5 #[.string s, .int .i64 i, .int .i64 j] w fun e w' => e = .returned (.bool true) ∧ w = w' := by
  go_enter Try.func5, Try.ntmps5
  go_wp2
  go_ret
  exact ⟨rfl, rfl⟩

set_option maxHeartbeats 400000 in
theorem bytes_no (s : ByteArray) (i j : Int) (w : World) (hs : s.size ≤ maxLen) (h : 1048576 < s.size) :
    Calls Try.prog 5 #[.string s, .int .i64 i, .int .i64 j] w fun e w' => e = .returned (.bool false) ∧ w = w' := by
  unfold maxLen at hs
  go_enter Try.func5, Try.ntmps5
  go_wp2
  go_ret
  exact ⟨rfl, rfl⟩

set_option maxHeartbeats 400000 in
theorem walk_no (s : ByteArray) (i j : Int) (w : World) (hs : s.size ≤ maxLen) (h : 1048576 < s.size) :
    Calls Try.prog 3 #[.string s, .int .i64 i, .int .i64 j] w fun e w' => e = .returned (.bool true) ∧ Grown w w' := by
  go_enter Try.func3, Try.ntmps3
  go_wp2_with (go_at_call 5; refine (bytes_no _ _ _ _ hs h).mono ?_; rintro e w' ⟨rfl, rfl⟩)
  go_ret
  exact ⟨rfl, Grown.refl _⟩

theorem data_cons (c : UInt8) (s : ByteArray) : ((⟨#[c]⟩ : ByteArray) ++ s).data.toList = c :: s.data.toList := by simp
theorem size_cons (c : UInt8) (s : ByteArray) (h : s.size ≤ 1048576) : ((⟨#[c]⟩ : ByteArray) ++ s).size ≤ maxLen := by
  unfold maxLen; rw [Lib.size_eq, data_cons]; simp; omega
theorem pre_cons (c b : UInt8) (s : ByteArray) : pre ((⟨#[c]⟩ : ByteArray) ++ s) b = (c == b) := by
  unfold pre; rw [data_cons]; simp

theorem bnd_def (s : ByteArray) : bnd ((⟨#[35]⟩ : ByteArray) ++ s) = false := by
  unfold bnd; rw [pre_cons]; rfl
theorem bnd_hid (s : ByteArray) : bnd ((⟨#[95]⟩ : ByteArray) ++ s) = decide (0 < s.size) := by
  unfold bnd; rw [pre_cons, Lib.toList_data, data_cons, Lib.size_eq]
  cases s.data.toList <;> simp
theorem bnd_reg (s : ByteArray) : bnd ((⟨#[97]⟩ : ByteArray) ++ s) = true := by
  unfold bnd; rw [pre_cons, Lib.toList_data, data_cons]; simp

set_option maxHeartbeats 1000000 in
theorem walk_yes (s : ByteArray) (i j : Int) (w : World) (hs : s.size ≤ 1048576) (r : Bool) (hr : decide (0 < s.size) = r) :
    Calls Try.prog 3 #[.string s, .int .i64 i, .int .i64 j] w fun e w' => e = .returned (.bool true) ∧ Grown w w' := by
  obtain ⟨D, hD⟩ : ∃ D, D = (⟨#[35]⟩ : ByteArray) ++ s := ⟨_, rfl⟩
  obtain ⟨E, hE⟩ : ∃ E, E = (⟨#[95]⟩ : ByteArray) ++ s := ⟨_, rfl⟩
  obtain ⟨G, hG⟩ : ∃ G, G = (⟨#[97]⟩ : ByteArray) ++ s := ⟨_, rfl⟩
  have HD : Hid (D = (⟨#[35]⟩ : ByteArray) ++ s) := hD
  have HE : Hid (E = (⟨#[95]⟩ : ByteArray) ++ s) := hE
  have HG : Hid (G = (⟨#[97]⟩ : ByteArray) ++ s) := hG
  clear hD hE hG
  go_enter Try.func3, Try.ntmps3
  go_wp2_with (go_at_call 5; refine (bytes_yes _ _ _ _ hs).mono ?_; rintro e w' ⟨rfl, rfl⟩)
  rw [← HD.out, ← HE.out, ← HG.out]
  obtain ⟨W, hW⟩ : ∃ W, W = (((w.alloc (.cells #[.int .i64 i, .int .i64 j, .string D] 27)).alloc (.cells #[.int .i64 i, .int .i64 j, .string E] 27)).alloc (.cells #[.int .i64 i, .int .i64 j, .string G] 27)) := ⟨_, rfl⟩
  have hg : Grown w W := by rw [hW]; exact ((Grown.refl _).alloc _ _).alloc _ _ |>.alloc _ _
  have hc1 : W.cell? ⟨w.heap.size, 2, none⟩ = some (.string D) := by rw [hW]; go_simp
  have hc2 : W.cell? ⟨w.heap.size + 1, 2, none⟩ = some (.string E) := by rw [hW]; go_simp
  have hc3 : W.cell? ⟨w.heap.size + 1 + 1, 2, none⟩ = some (.string G) := by rw [hW]; go_simp
  rw [← hW]
  clear hW
  have sD : D.size ≤ maxLen := by rw [HD.out]; exact size_cons _ s hs
  have sE : E.size ≤ maxLen := by rw [HE.out]; exact size_cons _ s hs
  have sG : G.size ≤ maxLen := by rw [HG.out]; exact size_cons _ s hs
  have pD : pre D 35 = true := by rw [HD.out, pre_cons]; rfl
  have pE1 : pre E 35 = false := by rw [HE.out, pre_cons]; rfl
  have pE2 : pre E 95 = true := by rw [HE.out, pre_cons]; rfl
  have pG1 : pre G 35 = false := by rw [HG.out, pre_cons]; rfl
  have pG2 : pre G 95 = false := by rw [HG.out, pre_cons]; rfl
  have bD : bnd D = false := by rw [HD.out, bnd_def]
  have bE : bnd E = r := by rw [HE.out, bnd_hid, hr]
  have bG : bnd G = true := by rw [HG.out, bnd_reg]
  clear HD HE HG
  refine (bind_to _ D false W sD hc1 bD).mono ?_
  rintro e w' ⟨rfl, rfl⟩
  go_wp2_with fail
  refine (bind_to _ E r W sE hc2 bE).mono ?_
  rintro e w' ⟨rfl, rfl⟩
  go_wp2_with fail
  refine (bind_to _ G true W sG hc3 bG).mono ?_
  rintro e w' ⟨rfl, rfl⟩
  go_wp2_with fail
  refine (kind_def _ D W sD hc1 pD).mono ?_
  rintro e w' ⟨rfl, rfl⟩
  go_wp2_with fail
  refine (kind_hid _ E W sE hc2 pE1 pE2).mono ?_
  rintro e w' ⟨rfl, rfl⟩
  go_wp2_with fail
  refine (kind_reg _ G W sG hc3 pG1 pG2).mono ?_
  rintro e w' ⟨rfl, rfl⟩
  go_wp2
  go_ret
  exact ⟨rfl, hg⟩

end Go.Proofs.Qxb6616482a.fnBindableByLabelKind
