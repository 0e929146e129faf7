/-
  The walk of FnArgWalkNumbersHeldInOrder.
-/
import Derived.Test.Qxb6615160aDoorInv
import Derived.Deep.RegionWith
namespace Go.Proofs.Qxb6615160aDoor
open Go.RowKit

set_option maxHeartbeats 400000 in
theorem walk_no (a b : Option Addr) (l1 c1 l2 c2 : Nat) (w : World) (h1 : l1 ≤ maxLen) (h2 : l2 ≤ maxLen) (h : 1048576 < l1 + l2) :
    Calls Tryd.prog 3 #[.slice a l1 c1, .slice b l2 c2] w fun e w' => e = .returned (.bool true) ∧ Below w.heap.size w w' := by
  go_enter Tryd.func3, Tryd.ntmps3
  go_wp2_with (go_at_call 5; refine (bytes_no _ _ _ _ _ _ _ h1 h2 h).mono ?_; rintro e w' ⟨rfl, rfl⟩)
  go_ret
  exact ⟨rfl, Below.refl _ _⟩

set_option maxHeartbeats 400000 in
theorem walk_long1 (a b : Option Addr) (l1 c1 l2 c2 : Nat) (w : World) (h : l1 + l2 ≤ 1048576) (h1 : (65536 : Int) < l1) :
    Calls Tryd.prog 3 #[.slice a l1 c1, .slice b l2 c2] w fun e w' => e = .returned (.bool true) ∧ Below w.heap.size w w' := by
  go_enter Tryd.func3, Tryd.ntmps3
  go_wp2_with (go_at_call 5; refine (bytes_yes _ _ _ _ _ _ _ h).mono ?_; rintro e w' ⟨rfl, rfl⟩)
  go_ret
  exact ⟨rfl, Below.refl _ _⟩

set_option maxHeartbeats 400000 in
theorem walk_long2 (a b : Option Addr) (l1 c1 l2 c2 : Nat) (w : World) (h : l1 + l2 ≤ 1048576) (h1 : ¬ (65536 : Int) < l1) (h2 : (65536 : Int) < l2) :
    Calls Tryd.prog 3 #[.slice a l1 c1, .slice b l2 c2] w fun e w' => e = .returned (.bool true) ∧ Below w.heap.size w w' := by
  go_enter Tryd.func3, Tryd.ntmps3
  go_wp2_with (go_at_call 5; refine (bytes_yes _ _ _ _ _ _ _ h).mono ?_; rintro e w' ⟨rfl, rfl⟩)
  go_ret
  exact ⟨rfl, Below.refl _ _⟩

set_option maxHeartbeats 400000 in
theorem walk_other (a b : Option Addr) (l1 c1 l2 c2 : Nat) (w : World) (h : l1 + l2 ≤ 1048576) (h1 : ¬ (65536 : Int) < l1) (h2 : ¬ (65536 : Int) < l2) (hne : ¬ l1 = l2) :
    Calls Tryd.prog 3 #[.slice a l1 c1, .slice b l2 c2] w fun e w' => e = .returned (.bool true) ∧ Below w.heap.size w w' := by
  have HN : Hid (¬ l1 = l2) := hne
  clear hne
  go_enter Tryd.func3, Tryd.ntmps3
  go_wp2_with (first
    | (go_at_call 5; refine (bytes_yes _ _ _ _ _ _ _ h).mono ?_; rintro e w' ⟨rfl, rfl⟩)
    | (go_at_call 6; refine (fit_other _ _ _ _ _ _ _ HN.out).mono ?_; rintro e w' ⟨rfl, rfl⟩))
  go_ret
  exact ⟨rfl, Below.refl _ _⟩

theorem info28 : (Tryd.prog.info? 28).map (fun i => (i.zero, i.size, i.bytes)) = some (some (.agg #[.int .u8 0, .int .i64 0]), 2, 16) := by kernel_rfl

set_option maxHeartbeats 2000000 in
theorem walk_main (a b : Option Addr) (len c1 c2 : Nat) (cs ns : List Int) (w : World) (b1 o1 b2 o2 : Nat) (h : len + len ≤ 1048576) (h1 : ¬ (65536 : Int) < len)
    (ha : 0 < len → a = some ⟨b1, o1, none⟩ ∧ b = some ⟨b2, o2, none⟩) (hb1 : 0 < len → b1 < w.heap.size) (hb2 : 0 < len → b2 < w.heap.size)
    (hc1 : ∀ k, k < len → w.cell? ⟨b1, o1 + k, none⟩ = some (.int .u8 (cs.getD k 0))) (hc2 : ∀ k, k < len → w.cell? ⟨b2, o2 + k, none⟩ = some (.int .i64 (ns.getD k 0)))
    (hp : ∀ k, k < len → 0 ≤ cs.getD k 0) (hz : 0 < w.heap.size) (ht : Tab w) :
    Calls Tryd.prog 3 #[.slice a len c1, .slice b len c2] w fun e w' => e = .returned (.bool true) ∧ Below w.heap.size w w' := by
  obtain ⟨i0, hi, hz0, hz1, hz2⟩ := info_parts info28
  have HB1 : Hid (0 < len → b1 < w.heap.size) := hb1
  have HB2 : Hid (0 < len → b2 < w.heap.size) := hb2
  have HA : Hid (0 < len → a = some ⟨b1, o1, none⟩ ∧ b = some ⟨b2, o2, none⟩) := ha
  have H1 : Hid (∀ k, k < len → w.cell? ⟨b1, o1 + k, none⟩ = some (.int .u8 (cs.getD k 0))) := hc1
  have H2 : Hid (∀ k, k < len → w.cell? ⟨b2, o2 + k, none⟩ = some (.int .i64 (ns.getD k 0))) := hc2
  have HF := fit_same a b len c1 c2 cs ns w (by omega) b1 o1 b2 o2 ha hc1 hc2 hp
  have HF' : Hid (Calls Tryd.prog 6 #[.slice a len c1, .slice b len c2] w fun e w' => (e = .returned (.bool false) ∧ w = w') ∨ (e = .returned (.bool true) ∧ w = w' ∧ Fit cs ns len)) := HF
  have HT : Hid (Tab w) := ht
  clear ha hc1 hc2 hp HF ht hb1 hb2
  go_enter Tryd.func3, Tryd.ntmps3
  go_wp2_with (go_at_call 5; refine (bytes_yes _ _ _ _ _ _ _ h).mono ?_; rintro e w' ⟨rfl, rfl⟩)
  refine HF'.out.mono ?_
  rintro e w' (⟨rfl, rfl⟩ | ⟨rfl, rfl, hfit⟩)
  · go_wp2
    go_ret
    exact ⟨rfl, Below.refl _ _⟩
  have HFit : Hid (Fit cs ns len) := hfit
  clear hfit HF'
  go_wp2_with (at_make; refine wpList_make_full _ rfl _ _ 25 rfl w.heap.size 28 i0 (.agg #[.int .u8 0, .int .i64 0]) 2 Tryd.underlying25 hi hz0 hz1 _ _ _ _ len rfl rfl rfl rfl (by rw [hz2]; omega) (by unfold maxLen; omega) (Nat.le_refl _) ?_)
  intro w2 hown2 hgrow2
  have hb2 : Below w.heap.size w w2 := (Below.refl _ _).grown hgrow2 (Nat.le_refl _) (by simp)
  have hrow2 : Row w2 w.heap.size cs ns len 0 := row_made hown2
  clear hown2 hgrow2
  go_wp2
  go_loopw [6] (fun i wr => ∃ k : Nat, k ≤ len ∧ i = .int .i64 (k : Int) ∧ Row wr w.heap.size cs ns len k ∧ Below w.heap.size w wr) (fun i _ => len - (intOf i).toNat)
  case atStart => exact ⟨0, Nat.zero_le _, rfl, hrow2, hb2⟩
  case round =>
    clear hrow2 hb2
    obtain ⟨k, hk, rfl, hrow, hnx⟩ := hrel
    have hsize := hnx.size
    by_cases hlt : k < len
    · obtain ⟨rfl, rfl⟩ := HA.out (by omega)
      have B1 := HB1.out (by omega)
      have B2 := HB2.out (by omega)
      have e1 := (hnx.cell (p := ⟨b1, o1 + k, none⟩) B1).trans (H1.out k hlt)
      have e2 := (hnx.cell (p := ⟨b2, o2 + k, none⟩) B2).trans (H2.out k hlt)
      obtain ⟨x, hx⟩ : ∃ x, cs.getD k 0 = x := ⟨_, rfl⟩
      obtain ⟨y, hy⟩ : ∃ y, ns.getD k 0 = y := ⟨_, rfl⟩
      rw [hx] at e1
      rw [hy] at e2
      have HX : Hid (cs.getD k 0 = x ∧ ns.getD k 0 = y) := ⟨hx, hy⟩
      obtain ⟨v0, r0⟩ := hrow.there (k * 2) (by omega)
      obtain ⟨v1, r1⟩ := hrow.there (k * 2 + 1) (by omega)
      have f0 := hrow.free (k * 2)
      have f1 := hrow.free (k * 2 + 1)
      have hSl := hrow.lt
      have b1l : b1 < wr.heap.size := by omega
      have b2l : b2 < wr.heap.size := by omega
      have hltI : (k : Int) < (len : Int) := by omega
      clear hx hy
      go_wp2
      go_region_with (go_at_call 7; refine (newStep_any _ _ _).mono ?_; rintro e w' ⟨rfl, rfl⟩)
      all_goals
        go_wp2
        go_roundw
        case rel =>
          refine ⟨k + 1, by omega, by go_num, ?_, ?_⟩
          · obtain ⟨hx, hy⟩ := HX.out
            rw [← hx, ← hy]
            exact ((hrow.step hlt).alloc _).drew
          · exact (((hnx.setCell (Nat.le_refl _) _).setCell (Nat.le_refl _) _).alloc (by simpa using hsize) _).drew
        case measure => simp [intOf]; omega
    · obtain rfl : len = k := by omega
      obtain ⟨wo, rfl⟩ : ∃ wo : World, wo = wr := ⟨_, rfl⟩
      have hSl := hrow.lt
      go_wp2_with (go_at_call 8; refine (newWalk_any _ _ _ _).mono ?_; rintro e w' ⟨rfl, rfl⟩)
      have hInv := Inv.made hnx hrow (Nat.le_refl _)
      obtain ⟨W, hW⟩ : ∃ W, W = ((wo.alloc (.cells #[.slice none 0 0, .int .i64 0, .int .i64 0, .nilIface, .slice (some ⟨w.heap.size, 0, none⟩) len len, .slice none 0 0, .slice none 0 0, .int .i64 0, .int .i64 0] 40)).alloc (.cells #[.pointer (some ⟨wo.heap.size, 0, none⟩), .int .i64 0, .int .i64 0, .int .i64 0] 42)) := ⟨_, rfl⟩
      rw [← hW] at hInv
      rw [← hW]
      obtain ⟨q, hq⟩ : ∃ q, wo.heap.size = q := ⟨_, rfl⟩
      rw [hq] at hInv
      rw [hq]
      clear hW hq hSl hrow hnx hsize hlt hk
      go_loopw [8, 9] (fun hv iv wr => ∃ k : Nat, k ≤ len ∧ iv = .int .i64 (k : Int) ∧ Hid (hv = .int .i64 (hld cs ns k)) ∧ Inv w wr w.heap.size q (q + 1) cs ns len (k : Int) 0 (hld cs ns k)) (fun _ iv _ => len - (intOf iv).toNat)
      case atStart => exact ⟨0, Nat.zero_le _, rfl, rfl, hInv⟩
      case round =>
        clear hInv
        obtain ⟨k, hk, rfl, hv, hI⟩ := hrel
        have hbd := fit_tot HFit.out k hk
        obtain ⟨g, hg⟩ : ∃ g, hld cs ns k = g := ⟨_, rfl⟩
        have hv := hv.out
        rw [hg] at hv hI hbd
        subst hv
        by_cases hlt : k < len
        · obtain ⟨rfl, rfl⟩ := HA.out (by omega)
          have B1 := HB1.out (by omega)
          have B2 := HB2.out (by omega)
          have e1 := H1.out k hlt
          have e2 := H2.out k hlt
          obtain ⟨hf1, hf2, hf3⟩ := HFit.out k hlt
          rw [tot_succ] at hf3
          have hs : hld cs ns (k + 1) = g + if cs.getD k 0 = 3 then 0 else ns.getD k 0 := by rw [← hg]; rfl
          obtain ⟨c, hc⟩ : ∃ c, cs.getD k 0 = c := ⟨_, rfl⟩
          obtain ⟨N, hN⟩ : ∃ N, ns.getD k 0 = N := ⟨_, rfl⟩
          obtain ⟨T, hT⟩ : ∃ T, tot ns k = T := ⟨_, rfl⟩
          rw [hc] at e1 hf1 hs
          rw [hN] at e2 hf2 hf3 hs
          rw [hT] at hbd hf3
          obtain ⟨hb0, hb1, hb2⟩ := hbd
          obtain ⟨hc0, hc4⟩ := hf1
          have hN65 : N ≤ 65536 := by omega
          have E1 : Hid (w.cell? ⟨b1, o1 + k, none⟩ = some (.int .u8 c)) := e1
          have E2 : Hid (w.cell? ⟨b2, o2 + k, none⟩ = some (.int .i64 N)) := e2
          have HC : Hid (cs.getD k 0 = c) := hc
          have HN : Hid (ns.getD k 0 = N) := hN
          have HS : Hid (hld cs ns (k + 1) = g + if c = 3 then 0 else N) := hs
          clear e1 e2 hc hN hs hT hg
          obtain ⟨wu, rfl⟩ : ∃ wu : World, wu = wr := ⟨_, rfl⟩
          go_wp2
          go_loopw [8, 10] (fun hv jv wr => ∃ j : Nat, (j : Int) ≤ N ∧ jv = .int .i64 (j : Int) ∧ Hid (hv = .int .i64 (hdOf c g (j : Int))) ∧ Inv w wr w.heap.size q (q + 1) cs ns len (stOf k N (j : Int)) (dnOf N (j : Int)) (hdOf c g (j : Int))) (fun _ jv _ => (N - intOf jv).toNat)
          case atStart =>
            have z1 : stOf k N ((0 : Nat) : Int) = (k : Int) := by unfold stOf; rw [if_neg (by omega)]
            have z2 : dnOf N ((0 : Nat) : Int) = 0 := by unfold dnOf; rw [if_neg (by omega)]; rfl
            have z3 : hdOf c g ((0 : Nat) : Int) = g := by unfold hdOf; split <;> simp
            exact ⟨0, by omega, rfl, show _ = _ from by rw [z3], by rw [z1, z2, z3]; exact hI⟩
          case round =>
            clear hI
            obtain ⟨j, hj, rfl, hv, hI⟩ := hrel
            obtain ⟨t, hT⟩ : ∃ t, hdOf c g (j : Int) = t := ⟨_, rfl⟩
            have hv := hv.out
            rw [hT] at hv
            subst hv
            have hsz := hI.bel.size
            have q1 := (hI.bel.cell (p := ⟨b1, o1 + k, none⟩) B1).trans E1.out
            have q2 := (hI.bel.cell (p := ⟨b2, o2 + k, none⟩) B2).trans E2.out
            have HTj : Hid (hdOf c g (j : Int) = t) := hT
            by_cases hjN : (j : Int) < N
            · have nx := inner_next j g N c hz HT.out hlt (by omega) HC.out HN.out hc0 hc4 hjN (by omega) hb0 (by omega) (fun _ => by omega) hI
              clear hT hI
              by_cases h3 : c = 3
              · have hb : (c != 3) = false := by simpa using h3
                have z1 : Hid (hdOf c g ((j + 1 : Nat) : Int) = t) := show _ = _ from by rw [← HTj.out]; unfold hdOf; rw [if_pos h3, if_pos h3]
                rw [if_pos h3] at nx
                have NX := nx
                have NXH : Hid (Calls Tryd.prog 9 #[.pointer (some ⟨q + 1, 0, none⟩)] wr fun e w' => e = .returned (.int .i64 (-1)) ∧ Inv w w' w.heap.size q (q + 1) cs ns len (stOf k N ((j : Int) + 1)) (dnOf N ((j : Int) + 1)) (hdOf c g ((j : Int) + 1))) := NX
                clear nx NX h3 hb0 hb1 hb2
                go_wp2_with (go_at_call 9; refine NXH.out.mono ?_; rintro e w3 ⟨rfl, hI3⟩)
                go_roundw
                case rel => exact ⟨j + 1, by omega, by go_num, show _ = _ from by rw [z1.out], hI3⟩
                case measure => simp [intOf]; omega
              · have hb : (c != 3) = true := by simpa using h3
                have t1 : g + (j : Int) = t := by rw [← HTj.out]; unfold hdOf; rw [if_neg h3]
                have z1 : Hid (hdOf c g ((j + 1 : Nat) : Int) = t + 1) := show _ = _ from by rw [← HTj.out]; unfold hdOf; rw [if_neg h3, if_neg h3]; omega
                rw [if_neg h3, t1] at nx
                have t2 : 0 ≤ t := by omega
                have t3 : t ≤ 65536 := by omega
                have NX := nx
                have NXH : Hid (Calls Tryd.prog 9 #[.pointer (some ⟨q + 1, 0, none⟩)] wr fun e w' => e = .returned (.int .i64 t) ∧ Inv w w' w.heap.size q (q + 1) cs ns len (stOf k N ((j : Int) + 1)) (dnOf N ((j : Int) + 1)) (hdOf c g ((j : Int) + 1))) := NX
                clear nx NX h3 hb0 hb1 hb2 t1
                go_wp2_with (go_at_call 9; refine NXH.out.mono ?_; rintro e w3 ⟨rfl, hI3⟩)
                go_roundw
                case rel => exact ⟨j + 1, by omega, by go_num, show _ = _ from by rw [z1.out], hI3⟩
                case measure => simp [intOf]; omega
            · have hjE : (j : Int) = N := by omega
              have z1 : stOf k N (j : Int) = ((k + 1 : Nat) : Int) := by unfold stOf; rw [if_pos hjE]; omega
              have z2 : dnOf N (j : Int) = 0 := by unfold dnOf; rw [if_pos hjE]
              have z3 : hld cs ns (k + 1) = t := by rw [HS.out, ← HTj.out]; unfold hdOf; split <;> omega
              rw [z1, z2, hT] at hI
              have Z3 : Hid (hld cs ns (k + 1) = t) := z3
              clear hT z1 z2 z3 hjE
              go_wp2
              go_roundw
              case rel => exact ⟨k + 1, by omega, by go_num, show _ = _ from by rw [Z3.out], by rw [Z3.out]; exact hI⟩
              case measure => simp [intOf]; omega
        · obtain rfl : len = k := by omega
          have p1 : wr.cell? ⟨q + 1, 1, none⟩ = some (.int .i64 (len : Int)) := b_cell hI.wlk 1
          have p2 : wr.cell? ⟨q + 1, 2, none⟩ = some (.int .i64 0) := b_cell hI.wlk 2
          have p3 : wr.cell? ⟨q + 1, 3, none⟩ = some (.int .i64 g) := b_cell hI.wlk 3
          clear hg hbd
          go_wp2_with (first
            | (go_at_call 10; refine (step_any _ _ _ p1).mono ?_; rintro e w' ⟨rfl, rfl⟩)
            | (go_at_call 11; refine (done_any _ _ _ p2).mono ?_; rintro e w' ⟨rfl, rfl⟩)
            | (go_at_call 12; refine (held_any _ _ _ p3).mono ?_; rintro e w' ⟨rfl, rfl⟩))
          go_ret
          exact ⟨rfl, hI.bel⟩

end Go.Proofs.Qxb6615160aDoor
