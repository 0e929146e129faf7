/-
  The contracts of ParseStream and zzShapeOK.
-/
import Derived.Test.Qxb6617057aFmtRows
import Derived.Test.Qxb6617057aFmtFacts
import Derived.WalkKit
import Derived.WalkSpells
import Derived.WalkLawsBesides
import Derived.Lib.Strings
namespace Go.Proofs.Qxb6617057aFmt
open Go.RowKit Go.Extern.Stop Go.Stop Go.Extern
attribute [local go_sem] call10 guard fmt0 fmt0r op9_118 op9_113 op9_118w op9_113w strict9 ptr33 elem33 isError33

theorem ret_bool {a b : Bool} (h : a = b) : Ending.returned (.bool a) = .returned (.bool b) := by rw [h]

set_option maxHeartbeats 400000 in
theorem parse_down (s : ByteArray) (w : World) (h1 : (s.toList == [100, 111, 119, 110, 115, 116, 114, 101, 97, 109]) = true) :
    Calls Tryf.prog 6 #[.string s] w fun e w' => e = .returned (.tuple #[.int .u8 0, .nilIface]) ∧ w = w' := by
  go_enter Tryf.func6, Tryf.ntmps6
  go_wp2
  go_ret2
  exact ⟨rfl, rfl⟩

set_option maxHeartbeats 400000 in
theorem parse_up (s : ByteArray) (w : World) (h1 : (s.toList == [100, 111, 119, 110, 115, 116, 114, 101, 97, 109]) = false) (h2 : (s.toList == [117, 112, 115, 116, 114, 101, 97, 109]) = true) :
    Calls Tryf.prog 6 #[.string s] w fun e w' => e = .returned (.tuple #[.int .u8 1, .nilIface]) ∧ w = w' := by
  go_enter Tryf.func6, Tryf.ntmps6
  go_wp2
  go_ret2
  exact ⟨rfl, rfl⟩

set_option maxHeartbeats 400000 in
theorem parse_no (F : Interp) (s : ByteArray) (w : World) (hF : F.answers w.tape) (h1 : (s.toList == [100, 111, 119, 110, 115, 116, 114, 101, 97, 109]) = false) (h2 : (s.toList == [117, 112, 115, 116, 114, 101, 97, 109]) = false) :
    Calls Tryf.prog 6 #[.string s] w fun e w' => e = .returned (.tuple #[.int .u8 0, .iface 33 (.pointer (some ⟨w.heap.size + 1, 0, none⟩))]) ∧ Below w.heap.size w w' := by
  have hF' := answers_open hF
  go_enter Tryf.func6, Tryf.ntmps6
  go_wp2
  go_ret2
  exact ⟨rfl, (((Below.refl _ _).alloc (Nat.le_refl _) _).alloc (by simp) _).drew⟩

/-- what ParseStream makes of the text s: the Stream n, accepted or not -/
def Cls (s : ByteArray) (n : Int) (ok : Bool) : Prop :=
  (ok = true ∧ n = 0 ∧ s.data.toList = [100, 111, 119, 110, 115, 116, 114, 101, 97, 109]) ∨ (ok = true ∧ n = 1 ∧ s.data.toList = [117, 112, 115, 116, 114, 101, 97, 109]) ∨
  (ok = false ∧ n = 0 ∧ s.data.toList ≠ [100, 111, 119, 110, 115, 116, 114, 101, 97, 109] ∧ s.data.toList ≠ [117, 112, 115, 116, 114, 101, 97, 109])

theorem cls_some (s : ByteArray) : ∃ n ok, Cls s n ok := by
  by_cases h1 : s.data.toList = [100, 111, 119, 110, 115, 116, 114, 101, 97, 109]
  · exact ⟨0, true, Or.inl ⟨rfl, rfl, h1⟩⟩
  · by_cases h2 : s.data.toList = [117, 112, 115, 116, 114, 101, 97, 109]
    · exact ⟨1, true, Or.inr (Or.inl ⟨rfl, rfl, h2⟩)⟩
    · exact ⟨0, false, Or.inr (Or.inr ⟨rfl, rfl, h1, h2⟩)⟩

theorem cls_ok {s : ByteArray} {n : Int} (h : Cls s n true) : n = 0 ∨ n = 1 := by
  rcases h with ⟨_, h, _⟩ | ⟨_, h, _⟩ | ⟨h, _⟩
  · exact Or.inl h
  · exact Or.inr h
  · cases h

theorem cls_bad {s : ByteArray} {n : Int} (h : Cls s n false) : n = 0 := by
  rcases h with ⟨h, _⟩ | ⟨h, _⟩ | ⟨_, h, _⟩
  · cases h
  · cases h
  · exact h

theorem parse_ok (s : ByteArray) (n : Int) (w : World) (h : Cls s n true) :
    Calls Tryf.prog 6 #[.string s] w fun e w' => e = .returned (.tuple #[.int .u8 n, .nilIface]) ∧ w = w' := by
  rcases h with ⟨_, rfl, h⟩ | ⟨_, rfl, h⟩ | ⟨h, _⟩
  · exact parse_down s w (by rw [Lib.toList_data, h]; rfl)
  · exact parse_up s w (by rw [Lib.toList_data, h]; rfl) (by rw [Lib.toList_data, h]; rfl)
  · cases h

theorem parse_bad (F : Interp) (s : ByteArray) (n : Int) (w : World) (hF : F.answers w.tape) (h : Cls s n false) :
    Calls Tryf.prog 6 #[.string s] w fun e w' => e = .returned (.tuple #[.int .u8 n, .iface 33 (.pointer (some ⟨w.heap.size + 1, 0, none⟩))]) ∧ Below w.heap.size w w' := by
  rcases h with ⟨h, _⟩ | ⟨h, _⟩ | ⟨_, rfl, h1, h2⟩
  · cases h
  · cases h
  · exact parse_no F s w hF (by rw [Lib.toList_data]; simpa using h1) (by rw [Lib.toList_data]; simpa using h2)

set_option maxHeartbeats 400000 in
theorem shape_ok (n : Int) (w : World) (h : n = 0 ∨ n = 1) :
    Calls Tryf.prog 7 #[.int .u8 n, .bool true] w fun e w' => e = .returned (.bool true) ∧ w = w' := by
  rcases h with rfl | rfl
  · go_enter Tryf.func7, Tryf.ntmps7
    go_wp2
    go_ret
    exact ⟨rfl, rfl⟩
  · go_enter Tryf.func7, Tryf.ntmps7
    go_wp2
    go_ret
    exact ⟨rfl, rfl⟩

set_option maxHeartbeats 400000 in
theorem shape_no (n : Int) (w : World) (h : n = 0) :
    Calls Tryf.prog 7 #[.int .u8 n, .bool false] w fun e w' => e = .returned (.bool true) ∧ w = w' := by
  subst h
  go_enter Tryf.func7, Tryf.ntmps7
  go_wp2
  go_ret
  exact ⟨rfl, rfl⟩
end Go.Proofs.Qxb6617057aFmt
