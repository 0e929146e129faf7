/-
  The contracts of zzBytes, zzStepsFit, ZZNewArgStep, ZZNewArgWalk and the three readers.
-/
import Derived.Test.Qxb6615160aDoorRows
import Derived.WalkKit
import Derived.WalkSpells
import Derived.WalkLawsBesides
namespace Go.Proofs.Qxb6615160aDoor
open Go.RowKit

set_option maxHeartbeats 400000 in
theorem bytes_yes (a b : Option Addr) (l1 c1 l2 c2 : Nat) (w : World) (h : l1 + l2 ≤ 1048576) :
    Calls Tryd.prog 5 #[.slice a l1 c1, .slice b l2 c2] w fun e w' => e = .returned (.bool true) ∧ w = w' := by
  go_enter Tryd.func5, Tryd.ntmps5
  go_wp2
  go_ret
  exact ⟨rfl, rfl⟩

set_option maxHeartbeats 400000 in
theorem bytes_no (a b : Option Addr) (l1 c1 l2 c2 : Nat) (w : World) (h1 : l1 ≤ maxLen) (h2 : l2 ≤ maxLen) (h : 1048576 < l1 + l2) :
    Calls Tryd.prog 5 #[.slice a l1 c1, .slice b l2 c2] w fun e w' => e = .returned (.bool false) ∧ w = w' := by
  unfold maxLen at h1 h2
  go_enter Tryd.func5, Tryd.ntmps5
  go_wp2
  all_goals
    go_ret
    exact ⟨rfl, rfl⟩

/-- the runs' sum -/
def tot (ns : List Int) : Nat → Int
  | 0 => 0
  | k + 1 => tot ns k + ns.getD k 0
theorem tot_zero (ns : List Int) : tot ns 0 = 0 := rfl
theorem tot_succ (ns : List Int) (k : Nat) : tot ns (k + 1) = tot ns k + ns.getD k 0 := rfl

/-- what zzStepsFit's yes says -/
def Fit (cs ns : List Int) (len : Nat) : Prop := ∀ k, k < len → (0 ≤ cs.getD k 0 ∧ cs.getD k 0 ≤ 4) ∧ 1 ≤ ns.getD k 0 ∧ tot ns (k + 1) ≤ 65536

set_option maxHeartbeats 400000 in
theorem fit_other (a b : Option Addr) (l1 c1 l2 c2 : Nat) (w : World) (h : ¬ l1 = l2) :
    Calls Tryd.prog 6 #[.slice a l1 c1, .slice b l2 c2] w fun e w' => e = .returned (.bool false) ∧ w = w' := by
  have h' : ((l1 : Int) != (l2 : Int)) = true := by simp; omega
  go_enter Tryd.func6, Tryd.ntmps6
  go_wp2
  go_ret
  exact ⟨rfl, rfl⟩

set_option maxHeartbeats 1000000 in
theorem fit_same (a b : Option Addr) (len c1 c2 : Nat) (cs ns : List Int) (w : World) (hl : len ≤ 65536) (b1 o1 b2 o2 : Nat)
    (ha : 0 < len → a = some ⟨b1, o1, none⟩ ∧ b = some ⟨b2, o2, none⟩)
    (hc1 : ∀ k, k < len → w.cell? ⟨b1, o1 + k, none⟩ = some (.int .u8 (cs.getD k 0))) (hc2 : ∀ k, k < len → w.cell? ⟨b2, o2 + k, none⟩ = some (.int .i64 (ns.getD k 0)))
    (hp : ∀ k, k < len → 0 ≤ cs.getD k 0) :
    Calls Tryd.prog 6 #[.slice a len c1, .slice b len c2] w fun e w' => (e = .returned (.bool false) ∧ w = w') ∨ (e = .returned (.bool true) ∧ w = w' ∧ Fit cs ns len) := by
  have HA : Hid (0 < len → a = some ⟨b1, o1, none⟩ ∧ b = some ⟨b2, o2, none⟩) := ha
  have H1 : Hid (∀ k, k < len → w.cell? ⟨b1, o1 + k, none⟩ = some (.int .u8 (cs.getD k 0))) := hc1
  have H2 : Hid (∀ k, k < len → w.cell? ⟨b2, o2 + k, none⟩ = some (.int .i64 (ns.getD k 0))) := hc2
  have HP : Hid (∀ k, k < len → 0 ≤ cs.getD k 0) := hp
  clear ha hc1 hc2 hp
  go_enter Tryd.func6, Tryd.ntmps6
  go_wp2
  go_loop [5, 6] (fun t i => ∃ k : Nat, k ≤ len ∧ i = .int .i64 (k : Int) ∧ Hid (t = .int .i64 (tot ns k)) ∧ 0 ≤ tot ns k ∧ tot ns k ≤ 65536 ∧ Hid (Fit cs ns k)) (fun _ i => len - (intOf i).toNat)
  case atStart => exact ⟨0, Nat.zero_le _, rfl, show _ = _ from by rw [tot_zero], by simp [tot_zero], by simp [tot_zero], fun k hk => by omega⟩
  case round =>
    obtain ⟨k, hk, rfl, ht, ht0, ht1, hf⟩ := hrel
    by_cases hlt : k < len
    · obtain ⟨rfl, rfl⟩ := HA.out (by omega)
      have e1 := H1.out k hlt
      have e2 := H2.out k hlt
      have e3 := HP.out k hlt
      have hs : Hid (tot ns (k + 1) = tot ns k + ns.getD k 0) := tot_succ ns k
      obtain ⟨x, hx⟩ : ∃ x, cs.getD k 0 = x := ⟨_, rfl⟩
      obtain ⟨y, hy⟩ : ∃ y, ns.getD k 0 = y := ⟨_, rfl⟩
      obtain ⟨T, hT⟩ : ∃ T, tot ns k = T := ⟨_, rfl⟩
      rw [hx] at e1 e3
      rw [hy] at e2
      rw [hT] at ht0 ht1
      have ht := ht.out
      rw [hT] at ht
      subst ht
      have HX : Hid (cs.getD k 0 = x ∧ ns.getD k 0 = y ∧ tot ns k = T) := ⟨hx, hy, hT⟩
      clear hx hy hT
      go_wp2
      · go_ret
        exact Or.inl ⟨rfl, rfl⟩
      · go_ret
        exact Or.inl ⟨rfl, rfl⟩
      · go_ret
        exact Or.inl ⟨rfl, rfl⟩
      · have hx4 : x ≤ 4 := by assumption
        have hy1 : 1 ≤ y := by assumption
        have hT1 : T + y ≤ 65536 := by assumption
        obtain ⟨hx, hy, hT⟩ := HX.out
        have hs := hs.out
        rw [hT, hy] at hs
        go_round
        case rel =>
          refine ⟨k + 1, by omega, by go_num, show _ = _ from by rw [hs], by omega, by omega, fun t ht => ?_⟩
          by_cases e : t < k
          · exact hf.out t e
          · obtain rfl : t = k := by omega
            rw [hx, hy, hs]
            exact ⟨⟨e3, hx4⟩, hy1, hT1⟩
        case measure => simp [intOf]; omega
      · go_ret
        exact Or.inl ⟨rfl, rfl⟩
    · have hfin : k = len := by omega
      have HL : Hid (k = len) := hfin
      clear hfin
      go_wp2
      go_ret
      exact Or.inr ⟨rfl, rfl, by rw [← HL.out]; exact hf⟩

set_option maxHeartbeats 400000 in
theorem newStep_any (c n : Int) (w : World) :
    Calls Tryd.prog 7 #[.int .u8 c, .int .i64 n] w fun e w' => e = .returned (.agg #[.int .u8 c, .int .i64 n]) ∧ w' = w.alloc (.cells #[.int .u8 c, .int .i64 n] 28) := by
  go_enter Tryd.func7, Tryd.ntmps7
  go_wp2
  exact bodyPost_ret (v := .agg #[.int .u8 c, .int .i64 n]) (by simp [results, Tryd.results7, go_sem]) rfl ⟨rfl, rfl⟩

set_option maxHeartbeats 400000 in
theorem newWalk_any (S : Option Addr) (n m : Nat) (w : World) :
    Calls Tryd.prog 8 #[.slice S n m, .int .i64 0, .int .i64 0, .int .i64 0] w fun e w' => e = .returned (.pointer (some ⟨w.heap.size + 1, 0, none⟩)) ∧
      w' = (w.alloc (.cells #[.slice none 0 0, .int .i64 0, .int .i64 0, .nilIface, .slice S n m, .slice none 0 0, .slice none 0 0, .int .i64 0, .int .i64 0] 40)).alloc (.cells #[.pointer (some ⟨w.heap.size, 0, none⟩), .int .i64 0, .int .i64 0, .int .i64 0] 42) := by
  go_enter Tryd.func8, Tryd.ntmps8
  go_wp2
  go_ret
  exact ⟨rfl, rfl⟩

set_option maxHeartbeats 400000 in
theorem step_any (p : Nat) (x : Int) (w : World) (h : w.cell? ⟨p, 1, none⟩ = some (.int .i64 x)) :
    Calls Tryd.prog 10 #[.pointer (some ⟨p, 0, none⟩)] w fun e w' => e = .returned (.int .i64 x) ∧ w = w' := by
  go_enter Tryd.func10, Tryd.ntmps10
  go_wp2
  go_ret
  exact ⟨rfl, rfl⟩

set_option maxHeartbeats 400000 in
theorem done_any (p : Nat) (x : Int) (w : World) (h : w.cell? ⟨p, 2, none⟩ = some (.int .i64 x)) :
    Calls Tryd.prog 11 #[.pointer (some ⟨p, 0, none⟩)] w fun e w' => e = .returned (.int .i64 x) ∧ w = w' := by
  go_enter Tryd.func11, Tryd.ntmps11
  go_wp2
  go_ret
  exact ⟨rfl, rfl⟩

set_option maxHeartbeats 400000 in
theorem held_any (p : Nat) (x : Int) (w : World) (h : w.cell? ⟨p, 3, none⟩ = some (.int .i64 x)) :
    Calls Tryd.prog 12 #[.pointer (some ⟨p, 0, none⟩)] w fun e w' => e = .returned (.int .i64 x) ∧ w = w' := by
  go_enter Tryd.func12, Tryd.ntmps12
  go_wp2
  go_ret
  exact ⟨rfl, rfl⟩

end Go.Proofs.Qxb6615160aDoor
