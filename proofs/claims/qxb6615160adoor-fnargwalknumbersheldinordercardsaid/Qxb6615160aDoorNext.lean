/-
  The contracts of argChange.rule and argWalk.next.
-/
import Derived.Test.Qxb6615160aDoorRows
import Derived.WalkKit
import Derived.WalkSpells
import Derived.WalkLawsBesides
import Derived.BigRegion
import Derived.Deep.QuietTactic
import Derived.BigQuiet
import Derived.RegionTactic
namespace Go.Proofs.Qxb6615160aDoor
open Go.RowKit

/-! ### a block of cells whose content is known -/
theorem b_cell {w : World} {b : Nat} {cs : Array Value} {t : TypeId} (h : w.heap[b]? = some (.cells cs t)) (j : Nat) : w.cell? ⟨b, j, none⟩ = cs[j]? := by
  simp [World.cell?, h]
theorem b_free {w : World} {b : Nat} {cs : Array Value} {t : TypeId} (h : w.heap[b]? = some (.cells cs t)) (j : Nat) : w.frozen? ⟨b, j, none⟩ = false := by
  simp [World.frozen?, h]
theorem b_set {w : World} {b : Nat} {cs : Array Value} {t : TypeId} (h : w.heap[b]? = some (.cells cs t)) (j : Nat) (v : Value) : (w.setCell ⟨b, j, none⟩ v).heap[b]? = some (.cells (cs.setIfInBounds j v) t) := by
  simp [World.setCell, Array.getElem?_modify, h]

/-- the table's cells -/
def tabV : List Int := [0, 1, 1, 5, 1, 1, 6, 1, 1, 4, 1, 0, 4, 0, 1]
def Tab (w : World) : Prop := ∀ j, j < 15 → w.cell? ⟨0, j, none⟩ = some (.int .i64 (tabV.getD j 0))
/-- how many held arguments a step of the change passes -/
def heldOf (c : Int) : Int := if c = 3 then 0 else 1

set_option maxHeartbeats 400000 in
theorem rule_0 (w : World) (hz : 0 < w.heap.size) (h0 : w.cell? ⟨0, 0, none⟩ = some (.int .i64 0)) (h1 : w.cell? ⟨0, 1, none⟩ = some (.int .i64 1)) (h2 : w.cell? ⟨0, 2, none⟩ = some (.int .i64 1)) :
    Calls Tryd.prog 15 #[.int .u8 0] w fun e w' => e = .returned (.agg #[.int .i64 0, .int .i64 1, .int .i64 1]) ∧ w' = w.alloc (.cells #[.int .i64 0, .int .i64 1, .int .i64 1] 45) := by
  go_enter Tryd.func15, Tryd.ntmps15
  go_wp2
  exact bodyPost_ret (v := .agg #[.int .i64 0, .int .i64 1, .int .i64 1]) (by simp [results, Tryd.results15, go_sem]) rfl ⟨rfl, rfl⟩

set_option maxHeartbeats 400000 in
theorem rule_1 (w : World) (hz : 0 < w.heap.size) (h0 : w.cell? ⟨0, 3, none⟩ = some (.int .i64 5)) (h1 : w.cell? ⟨0, 4, none⟩ = some (.int .i64 1)) (h2 : w.cell? ⟨0, 5, none⟩ = some (.int .i64 1)) :
    Calls Tryd.prog 15 #[.int .u8 1] w fun e w' => e = .returned (.agg #[.int .i64 5, .int .i64 1, .int .i64 1]) ∧ w' = w.alloc (.cells #[.int .i64 5, .int .i64 1, .int .i64 1] 45) := by
  go_enter Tryd.func15, Tryd.ntmps15
  go_wp2
  exact bodyPost_ret (v := .agg #[.int .i64 5, .int .i64 1, .int .i64 1]) (by simp [results, Tryd.results15, go_sem]) rfl ⟨rfl, rfl⟩

set_option maxHeartbeats 400000 in
theorem rule_2 (w : World) (hz : 0 < w.heap.size) (h0 : w.cell? ⟨0, 6, none⟩ = some (.int .i64 6)) (h1 : w.cell? ⟨0, 7, none⟩ = some (.int .i64 1)) (h2 : w.cell? ⟨0, 8, none⟩ = some (.int .i64 1)) :
    Calls Tryd.prog 15 #[.int .u8 2] w fun e w' => e = .returned (.agg #[.int .i64 6, .int .i64 1, .int .i64 1]) ∧ w' = w.alloc (.cells #[.int .i64 6, .int .i64 1, .int .i64 1] 45) := by
  go_enter Tryd.func15, Tryd.ntmps15
  go_wp2
  exact bodyPost_ret (v := .agg #[.int .i64 6, .int .i64 1, .int .i64 1]) (by simp [results, Tryd.results15, go_sem]) rfl ⟨rfl, rfl⟩

set_option maxHeartbeats 400000 in
theorem rule_3 (w : World) (hz : 0 < w.heap.size) (h0 : w.cell? ⟨0, 9, none⟩ = some (.int .i64 4)) (h1 : w.cell? ⟨0, 10, none⟩ = some (.int .i64 1)) (h2 : w.cell? ⟨0, 11, none⟩ = some (.int .i64 0)) :
    Calls Tryd.prog 15 #[.int .u8 3] w fun e w' => e = .returned (.agg #[.int .i64 4, .int .i64 1, .int .i64 0]) ∧ w' = w.alloc (.cells #[.int .i64 4, .int .i64 1, .int .i64 0] 45) := by
  go_enter Tryd.func15, Tryd.ntmps15
  go_wp2
  exact bodyPost_ret (v := .agg #[.int .i64 4, .int .i64 1, .int .i64 0]) (by simp [results, Tryd.results15, go_sem]) rfl ⟨rfl, rfl⟩

set_option maxHeartbeats 400000 in
theorem rule_4 (w : World) (hz : 0 < w.heap.size) (h0 : w.cell? ⟨0, 12, none⟩ = some (.int .i64 4)) (h1 : w.cell? ⟨0, 13, none⟩ = some (.int .i64 0)) (h2 : w.cell? ⟨0, 14, none⟩ = some (.int .i64 1)) :
    Calls Tryd.prog 15 #[.int .u8 4] w fun e w' => e = .returned (.agg #[.int .i64 4, .int .i64 0, .int .i64 1]) ∧ w' = w.alloc (.cells #[.int .i64 4, .int .i64 0, .int .i64 1] 45) := by
  go_enter Tryd.func15, Tryd.ntmps15
  go_wp2
  exact bodyPost_ret (v := .agg #[.int .i64 4, .int .i64 0, .int .i64 1]) (by simp [results, Tryd.results15, go_sem]) rfl ⟨rfl, rfl⟩

theorem field_2 (x y z : Int) (w : World) : (Instr.field 45 (.agg #[.int .i64 x, .int .i64 y, .int .i64 z]) 2).run Tryd.prog w = .ok (.int .i64 z) w := by kernel_rfl

theorem tab_alloc {w : World} (h : Tab w) (hz : 0 < w.heap.size) (o : Obj) : Tab (w.alloc o).drew := fun j hj => by
  have := h j hj
  simp only [World.cell?] at this ⊢
  have e : (w.alloc o).drew.heap[0]? = w.heap[0]? := Below.heap_alloc w o 0 hz
  rw [e]; exact this

theorem rule_any (c : Int) (w : World) (hz : 0 < w.heap.size) (ht : Tab w) (h0 : 0 ≤ c) (h4 : c ≤ 4) :
    Calls Tryd.prog 15 #[.int .u8 c] w fun e w' => ∃ x y : Int, e = .returned (.agg #[.int .i64 x, .int .i64 y, .int .i64 (heldOf c)]) ∧ w' = w.alloc (.cells #[.int .i64 x, .int .i64 y, .int .i64 (heldOf c)] 45) := by
  rcases (show c = 0 ∨ c = 1 ∨ c = 2 ∨ c = 3 ∨ c = 4 by omega) with rfl | rfl | rfl | rfl | rfl
  · exact (rule_0 w hz (ht 0 (by omega)) (ht 1 (by omega)) (ht 2 (by omega))).mono fun e w' ⟨he, hw⟩ => ⟨0, 1, he, hw⟩
  · exact (rule_1 w hz (ht 3 (by omega)) (ht 4 (by omega)) (ht 5 (by omega))).mono fun e w' ⟨he, hw⟩ => ⟨5, 1, he, hw⟩
  · exact (rule_2 w hz (ht 6 (by omega)) (ht 7 (by omega)) (ht 8 (by omega))).mono fun e w' ⟨he, hw⟩ => ⟨6, 1, he, hw⟩
  · exact (rule_3 w hz (ht 9 (by omega)) (ht 10 (by omega)) (ht 11 (by omega))).mono fun e w' ⟨he, hw⟩ => ⟨4, 1, he, hw⟩
  · exact (rule_4 w hz (ht 12 (by omega)) (ht 13 (by omega)) (ht 14 (by omega))).mono fun e w' ⟨he, hw⟩ => ⟨4, 0, he, hw⟩

/-! ### the walk's own block, written; all other blocks as they were -/
def At (w0 w : World) (p : Nat) (cs : Array Value) : Prop := w0.grownBy w (some p) ∧ w.heap[p]? = some (.cells cs 42)

theorem At.refl {w : World} {p : Nat} {cs : Array Value} (h : w.heap[p]? = some (.cells cs 42)) : At w w p cs := ⟨World.grownBy.refl _ _, h⟩
theorem At.set {w0 w : World} {p : Nat} {cs : Array Value} (h : At w0 w p cs) (j : Nat) (v : Value) : At w0 (w.setCell ⟨p, j, none⟩ v) p (cs.setIfInBounds j v) := by
  obtain ⟨⟨g1, g2, g3, g4, g5⟩, h2⟩ := h
  refine ⟨⟨g1, g2, g3, ?_, fun k hk hne => ?_⟩, b_set h2 j v⟩
  · simpa [World.setCell] using g4
  · rw [Below.heap_setCell w _ v k (fun e => hne (by rw [e]))]; exact g5 k hk hne
theorem At.alloc {w0 w : World} {p : Nat} {cs : Array Value} (h : At w0 w p cs) (o : Obj) : At w0 (w.alloc o) p cs := by
  obtain ⟨⟨g1, g2, g3, g4, g5⟩, h2⟩ := h
  have hp := lt_of_block h2
  refine ⟨⟨g1, g2, g3, ?_, fun k hk hne => ?_⟩, by rw [Below.heap_alloc w o p hp]; exact h2⟩
  · have : (w.alloc o).heap.size = w.heap.size + 1 := by simp
    omega
  · rw [Below.heap_alloc w o k (by omega)]; exact g5 k hk hne
theorem At.drew {w0 w : World} {p : Nat} {cs : Array Value} (h : At w0 w p cs) : At w0 w.drew p cs := ⟨⟨h.1.1, h.1.2, h.1.3, h.1.4, h.1.5⟩, h.2⟩
theorem At.drewN {w0 w : World} {p : Nat} {cs : Array Value} (h : At w0 w p cs) (n : Nat) : At w0 (w.drewN n) p cs := ⟨⟨h.1.1, h.1.2, h.1.3, h.1.4, h.1.5⟩, h.2⟩

set_option maxHeartbeats 1000000 in
theorem next_held_on (w : World) (p q S n : Nat) (i : Nat) (j h m c : Int) (hz : 0 < w.heap.size) (ht : Tab w) (hc0 : 0 ≤ c) (hc4 : c ≤ 4) (hc3 : ¬ c = 3) (hin : i < n) (_hn : n ≤ 65536)
    (hp : w.heap[p]? = some (.cells #[.pointer (some ⟨q, 0, none⟩), .int .i64 (i : Int), .int .i64 j, .int .i64 h] 42))
    (hq : w.cell? ⟨q, 4, none⟩ = some (.slice (some ⟨S, 0, none⟩) n n))
    (hs0 : w.cell? ⟨S, i * 2, none⟩ = some (.int .u8 c)) (hs1 : w.cell? ⟨S, i * 2 + 1, none⟩ = some (.int .i64 m))
    (hj0 : 0 ≤ j) (hj1 : j ≤ 65536) (hh0 : 0 ≤ h) (hh1 : h ≤ 65536) (hqw : q < w.heap.size) (hSw : S < w.heap.size) (hm : (j + 1 == m) = false) :
    Calls Tryd.prog 14 #[.pointer (some ⟨p, 0, none⟩)] w fun e w' => e = .returned (.int .i64 h) ∧
      At w w' p #[.pointer (some ⟨q, 0, none⟩), .int .i64 (i : Int), .int .i64 (j + 1), .int .i64 (h + 1)] := by
  have p0 : w.cell? ⟨p, 0, none⟩ = some (.pointer (some ⟨q, 0, none⟩)) := b_cell hp 0
  have p1 : w.cell? ⟨p, 1, none⟩ = some (.int .i64 (i : Int)) := b_cell hp 1
  have p2 : w.cell? ⟨p, 2, none⟩ = some (.int .i64 j) := b_cell hp 2
  have p3 : w.cell? ⟨p, 3, none⟩ = some (.int .i64 h) := b_cell hp 3
  have f1 : w.frozen? ⟨p, 1, none⟩ = false := b_free hp 1
  have f2 : w.frozen? ⟨p, 2, none⟩ = false := b_free hp 2
  have f3 : w.frozen? ⟨p, 3, none⟩ = false := b_free hp 3
  have hpw : p < w.heap.size := lt_of_block hp
  have HP : Hid (w.heap[p]? = some (.cells #[.pointer (some ⟨q, 0, none⟩), .int .i64 (i : Int), .int .i64 j, .int .i64 h] 42)) := hp
  have HT : Hid (Tab w) := ht
  have hin' : (i : Int) < (n : Int) := by omega
  have hc1 : heldOf c = 1 := by unfold heldOf; rw [if_neg hc3]
  clear hp ht hc3
  go_enter Tryd.func14, Tryd.ntmps14
  go_wp2
  go_region
  go_wp2_with fail
  refine (rule_any c _ (by simp) (tab_alloc HT.out hz _) hc0 hc4).mono ?_
  rintro e w1 ⟨x, y, rfl, rfl⟩
  have hfd := field_2 x y
  go_wp2
  go_quiet (fail)
  go_wp2
  go_ret
  refine ⟨rfl, ?_⟩
  have R := ((((((At.refl HP.out).set 3 (.int .i64 (h + 1))).set 2 (.int .i64 (j + 1))).alloc (.cells #[.int .u8 c, .int .i64 m] 28)).alloc (.cells #[.int .i64 x, .int .i64 y, .int .i64 1] 45)).drew).drewN nq
  simpa using R

set_option maxHeartbeats 1000000 in
theorem next_held_done (w : World) (p q S n : Nat) (i : Nat) (j h m c : Int) (hz : 0 < w.heap.size) (ht : Tab w) (hc0 : 0 ≤ c) (hc4 : c ≤ 4) (hc3 : ¬ c = 3) (hin : i < n) (hn : n ≤ 65536)
    (hp : w.heap[p]? = some (.cells #[.pointer (some ⟨q, 0, none⟩), .int .i64 (i : Int), .int .i64 j, .int .i64 h] 42))
    (hq : w.cell? ⟨q, 4, none⟩ = some (.slice (some ⟨S, 0, none⟩) n n))
    (hs0 : w.cell? ⟨S, i * 2, none⟩ = some (.int .u8 c)) (hs1 : w.cell? ⟨S, i * 2 + 1, none⟩ = some (.int .i64 m))
    (hj0 : 0 ≤ j) (hj1 : j ≤ 65536) (hh0 : 0 ≤ h) (hh1 : h ≤ 65536) (hqw : q < w.heap.size) (hSw : S < w.heap.size) (hm : (j + 1 == m) = true) :
    Calls Tryd.prog 14 #[.pointer (some ⟨p, 0, none⟩)] w fun e w' => e = .returned (.int .i64 h) ∧
      At w w' p #[.pointer (some ⟨q, 0, none⟩), .int .i64 ((i : Int) + 1), .int .i64 0, .int .i64 (h + 1)] := by
  have p0 : w.cell? ⟨p, 0, none⟩ = some (.pointer (some ⟨q, 0, none⟩)) := b_cell hp 0
  have p1 : w.cell? ⟨p, 1, none⟩ = some (.int .i64 (i : Int)) := b_cell hp 1
  have p2 : w.cell? ⟨p, 2, none⟩ = some (.int .i64 j) := b_cell hp 2
  have p3 : w.cell? ⟨p, 3, none⟩ = some (.int .i64 h) := b_cell hp 3
  have f1 : w.frozen? ⟨p, 1, none⟩ = false := b_free hp 1
  have f2 : w.frozen? ⟨p, 2, none⟩ = false := b_free hp 2
  have f3 : w.frozen? ⟨p, 3, none⟩ = false := b_free hp 3
  have hpw : p < w.heap.size := lt_of_block hp
  have HP : Hid (w.heap[p]? = some (.cells #[.pointer (some ⟨q, 0, none⟩), .int .i64 (i : Int), .int .i64 j, .int .i64 h] 42)) := hp
  have HT : Hid (Tab w) := ht
  have hin' : (i : Int) < (n : Int) := by omega
  have hc1 : heldOf c = 1 := by unfold heldOf; rw [if_neg hc3]
  clear hp ht hc3
  go_enter Tryd.func14, Tryd.ntmps14
  go_wp2
  go_region
  go_wp2_with fail
  refine (rule_any c _ (by simp) (tab_alloc HT.out hz _) hc0 hc4).mono ?_
  rintro e w1 ⟨x, y, rfl, rfl⟩
  have hfd := field_2 x y
  go_wp2
  go_quiet (fail)
  go_wp2
  go_ret
  refine ⟨rfl, ?_⟩
  have R := (((((((At.refl HP.out).set 3 (.int .i64 (h + 1))).set 2 (.int .i64 (j + 1))).alloc (.cells #[.int .u8 c, .int .i64 m] 28)).alloc (.cells #[.int .i64 x, .int .i64 y, .int .i64 1] 45)).drewN (1 + nq)).set 1 (.int .i64 ((i : Int) + 1))).set 2 (.int .i64 0)
  simpa using R

set_option maxHeartbeats 1000000 in
theorem next_not_on (w : World) (p q S n : Nat) (i : Nat) (j h m c : Int) (hz : 0 < w.heap.size) (ht : Tab w) (hc0 : 0 ≤ c) (hc4 : c ≤ 4) (hc3 : c = 3) (hin : i < n) (_hn : n ≤ 65536)
    (hp : w.heap[p]? = some (.cells #[.pointer (some ⟨q, 0, none⟩), .int .i64 (i : Int), .int .i64 j, .int .i64 h] 42))
    (hq : w.cell? ⟨q, 4, none⟩ = some (.slice (some ⟨S, 0, none⟩) n n))
    (hs0 : w.cell? ⟨S, i * 2, none⟩ = some (.int .u8 c)) (hs1 : w.cell? ⟨S, i * 2 + 1, none⟩ = some (.int .i64 m))
    (hj0 : 0 ≤ j) (hj1 : j ≤ 65536) (_hh0 : 0 ≤ h) (_hh1 : h ≤ 65536) (hqw : q < w.heap.size) (hSw : S < w.heap.size) (hm : (j + 1 == m) = false) :
    Calls Tryd.prog 14 #[.pointer (some ⟨p, 0, none⟩)] w fun e w' => e = .returned (.int .i64 (-1)) ∧
      At w w' p #[.pointer (some ⟨q, 0, none⟩), .int .i64 (i : Int), .int .i64 (j + 1), .int .i64 h] := by
  have p0 : w.cell? ⟨p, 0, none⟩ = some (.pointer (some ⟨q, 0, none⟩)) := b_cell hp 0
  have p1 : w.cell? ⟨p, 1, none⟩ = some (.int .i64 (i : Int)) := b_cell hp 1
  have p2 : w.cell? ⟨p, 2, none⟩ = some (.int .i64 j) := b_cell hp 2
  have p3 : w.cell? ⟨p, 3, none⟩ = some (.int .i64 h) := b_cell hp 3
  have f1 : w.frozen? ⟨p, 1, none⟩ = false := b_free hp 1
  have f2 : w.frozen? ⟨p, 2, none⟩ = false := b_free hp 2
  have f3 : w.frozen? ⟨p, 3, none⟩ = false := b_free hp 3
  have hpw : p < w.heap.size := lt_of_block hp
  have HP : Hid (w.heap[p]? = some (.cells #[.pointer (some ⟨q, 0, none⟩), .int .i64 (i : Int), .int .i64 j, .int .i64 h] 42)) := hp
  have HT : Hid (Tab w) := ht
  have hin' : (i : Int) < (n : Int) := by omega
  have hc1 : heldOf c = 0 := by unfold heldOf; rw [if_pos hc3]
  clear hp ht hc3
  go_enter Tryd.func14, Tryd.ntmps14
  go_wp2
  go_region
  go_wp2_with fail
  refine (rule_any c _ (by simp) (tab_alloc HT.out hz _) hc0 hc4).mono ?_
  rintro e w1 ⟨x, y, rfl, rfl⟩
  have hfd := field_2 x y
  go_wp2
  go_quiet (fail)
  go_wp2
  go_ret
  refine ⟨rfl, ?_⟩
  have R := (((((At.refl HP.out).set 2 (.int .i64 (j + 1))).alloc (.cells #[.int .u8 c, .int .i64 m] 28)).alloc (.cells #[.int .i64 x, .int .i64 y, .int .i64 0] 45)).drew).drewN nq
  simpa using R

set_option maxHeartbeats 1000000 in
theorem next_not_done (w : World) (p q S n : Nat) (i : Nat) (j h m c : Int) (hz : 0 < w.heap.size) (ht : Tab w) (hc0 : 0 ≤ c) (hc4 : c ≤ 4) (hc3 : c = 3) (hin : i < n) (hn : n ≤ 65536)
    (hp : w.heap[p]? = some (.cells #[.pointer (some ⟨q, 0, none⟩), .int .i64 (i : Int), .int .i64 j, .int .i64 h] 42))
    (hq : w.cell? ⟨q, 4, none⟩ = some (.slice (some ⟨S, 0, none⟩) n n))
    (hs0 : w.cell? ⟨S, i * 2, none⟩ = some (.int .u8 c)) (hs1 : w.cell? ⟨S, i * 2 + 1, none⟩ = some (.int .i64 m))
    (hj0 : 0 ≤ j) (hj1 : j ≤ 65536) (_hh0 : 0 ≤ h) (_hh1 : h ≤ 65536) (hqw : q < w.heap.size) (hSw : S < w.heap.size) (hm : (j + 1 == m) = true) :
    Calls Tryd.prog 14 #[.pointer (some ⟨p, 0, none⟩)] w fun e w' => e = .returned (.int .i64 (-1)) ∧
      At w w' p #[.pointer (some ⟨q, 0, none⟩), .int .i64 ((i : Int) + 1), .int .i64 0, .int .i64 h] := by
  have p0 : w.cell? ⟨p, 0, none⟩ = some (.pointer (some ⟨q, 0, none⟩)) := b_cell hp 0
  have p1 : w.cell? ⟨p, 1, none⟩ = some (.int .i64 (i : Int)) := b_cell hp 1
  have p2 : w.cell? ⟨p, 2, none⟩ = some (.int .i64 j) := b_cell hp 2
  have p3 : w.cell? ⟨p, 3, none⟩ = some (.int .i64 h) := b_cell hp 3
  have f1 : w.frozen? ⟨p, 1, none⟩ = false := b_free hp 1
  have f2 : w.frozen? ⟨p, 2, none⟩ = false := b_free hp 2
  have f3 : w.frozen? ⟨p, 3, none⟩ = false := b_free hp 3
  have hpw : p < w.heap.size := lt_of_block hp
  have HP : Hid (w.heap[p]? = some (.cells #[.pointer (some ⟨q, 0, none⟩), .int .i64 (i : Int), .int .i64 j, .int .i64 h] 42)) := hp
  have HT : Hid (Tab w) := ht
  have hin' : (i : Int) < (n : Int) := by omega
  have hc1 : heldOf c = 0 := by unfold heldOf; rw [if_pos hc3]
  clear hp ht hc3
  go_enter Tryd.func14, Tryd.ntmps14
  go_wp2
  go_region
  go_wp2_with fail
  refine (rule_any c _ (by simp) (tab_alloc HT.out hz _) hc0 hc4).mono ?_
  rintro e w1 ⟨x, y, rfl, rfl⟩
  have hfd := field_2 x y
  go_wp2
  go_quiet (fail)
  go_wp2
  go_ret
  refine ⟨rfl, ?_⟩
  have R := ((((((At.refl HP.out).set 2 (.int .i64 (j + 1))).alloc (.cells #[.int .u8 c, .int .i64 m] 28)).alloc (.cells #[.int .i64 x, .int .i64 y, .int .i64 0] 45)).drewN (1 + nq)).set 1 (.int .i64 ((i : Int) + 1))).set 2 (.int .i64 0)
  simpa using R

/-! ### the walk's step, plainly: the index in the step, the count done, the count held -/
theorem next_any (w : World) (p q S n : Nat) (i : Nat) (j h m c : Int) (hz : 0 < w.heap.size) (ht : Tab w) (hc0 : 0 ≤ c) (hc4 : c ≤ 4) (hin : i < n) (hn : n ≤ 65536)
    (hp : w.heap[p]? = some (.cells #[.pointer (some ⟨q, 0, none⟩), .int .i64 (i : Int), .int .i64 j, .int .i64 h] 42))
    (hq : w.cell? ⟨q, 4, none⟩ = some (.slice (some ⟨S, 0, none⟩) n n))
    (hs0 : w.cell? ⟨S, i * 2, none⟩ = some (.int .u8 c)) (hs1 : w.cell? ⟨S, i * 2 + 1, none⟩ = some (.int .i64 m))
    (hj0 : 0 ≤ j) (hj1 : j ≤ 65536) (hh0 : 0 ≤ h) (hh1 : h ≤ 65536) (hqw : q < w.heap.size) (hSw : S < w.heap.size) :
    Calls Tryd.prog 14 #[.pointer (some ⟨p, 0, none⟩)] w fun e w' => e = .returned (.int .i64 (if c = 3 then -1 else h)) ∧
      At w w' p #[.pointer (some ⟨q, 0, none⟩), .int .i64 (if j + 1 = m then (i : Int) + 1 else (i : Int)), .int .i64 (if j + 1 = m then 0 else j + 1), .int .i64 (if c = 3 then h else h + 1)] := by
  by_cases hc3 : c = 3
  · by_cases hm : j + 1 = m
    · simp only [if_pos hc3, if_pos hm]
      exact next_not_done w p q S n i j h m c hz ht hc0 hc4 hc3 hin hn hp hq hs0 hs1 hj0 hj1 hh0 hh1 hqw hSw (by simpa using hm)
    · simp only [if_pos hc3, if_neg hm]
      exact next_not_on w p q S n i j h m c hz ht hc0 hc4 hc3 hin hn hp hq hs0 hs1 hj0 hj1 hh0 hh1 hqw hSw (by simpa using hm)
  · by_cases hm : j + 1 = m
    · simp only [if_neg hc3, if_pos hm]
      exact next_held_done w p q S n i j h m c hz ht hc0 hc4 hc3 hin hn hp hq hs0 hs1 hj0 hj1 hh0 hh1 hqw hSw (by simpa using hm)
    · simp only [if_neg hc3, if_neg hm]
      exact next_held_on w p q S n i j h m c hz ht hc0 hc4 hc3 hin hn hp hq hs0 hs1 hj0 hj1 hh0 hh1 hqw hSw (by simpa using hm)

set_option maxHeartbeats 400000 in
theorem znext_any (w : World) (p : Nat) (r : Int) (R : World → Prop) (h : Calls Tryd.prog 14 #[.pointer (some ⟨p, 0, none⟩)] w fun e w' => e = .returned (.int .i64 r) ∧ R w') :
    Calls Tryd.prog 9 #[.pointer (some ⟨p, 0, none⟩)] w fun e w' => e = .returned (.int .i64 r) ∧ R w' := by
  have H : Hid (Calls Tryd.prog 14 #[.pointer (some ⟨p, 0, none⟩)] w fun e w' => e = .returned (.int .i64 r) ∧ R w') := h
  clear h
  go_enter Tryd.func9, Tryd.ntmps9
  go_wp2_with fail
  refine H.out.mono ?_
  rintro e w1 ⟨rfl, hR⟩
  go_wp2
  go_ret
  exact ⟨rfl, hR⟩

end Go.Proofs.Qxb6615160aDoor
