/-
  The proof of the tied card 'Rows.FnArgWalkNumbersHeldInOrderCardSaid' (after the kit's MapyProofs.lean, MapyCard.lean and the shell for slices). The walk lies in Qxb6615160aDoorMain.lean.
-/
import Derived.Test.Qxb6615160aDoorCards
import Derived.Test.Qxb6615160aDoorTie
import Derived.Test.Qxb6615160aDoorMain
import Derived.ProofKit
import Derived.LaidMore
import Derived.OpenShut
import Derived.ShutString
import Derived.ChangeOld
import Derived.ChangeVars
import Derived.Below
import Derived.Deep.Strs
import Derived.Stop.Joined
import Derived.SevenTiedAt
namespace Go.Proofs.Qxb6615160aDoor.fnArgWalkNumbersHeldInOrder
open Go.ChangeShapes Go.WideShapes Go.ChangeAt Go.RowKit

theorem own : ownKnob Tryd.prog.godebug = none := by kernel_rfl
theorem laidOut : laidOutB Tryd.prog = true := by kernel_rfl

/-- the listed variable's name -/
def vn : String := Rows.fnArgWalkNumbersHeldInOrderSpec.vars.headD ""
theorem gR : Tryd.prog.globalNamed vn = some 0 := by kernel_rfl
theorem tR : (Tryd.prog.globals[0]?).map (·.type) = some 47 := by kernel_rfl
theorem cells3 : Tryd.prog.cellsOf 3 = 1 := by kernel_rfl
theorem cells45 : Tryd.prog.cellsOf 45 = 3 := by kernel_rfl
theorem cells47 : Tryd.prog.cellsOf 47 = 15 := by kernel_rfl

def cells15 : Array Value := #[.int .i64 0, .int .i64 1, .int .i64 1, .int .i64 5, .int .i64 1, .int .i64 1, .int .i64 6, .int .i64 1, .int .i64 1, .int .i64 4, .int .i64 1, .int .i64 0, .int .i64 4, .int .i64 0, .int .i64 1]

abbrev laidL : List (String × DataW Unit) := Rows.fnArgWalkNumbersHeldInOrderRow.laid

theorem rule_cells {H : Type} {enc : TypeId × Value → H} {W : World} {base : Nat} {sp : Nat → Bool} {held : Bool} {m : Nat} {a b c : Value} {x y z : Int} {p : List MemPlace}
    (h : DataW.trod enc Tryd.prog W base sp held m 45 [a, b, c] = some (.agg [.lit (.int .i64 x), .lit (.int .i64 y), .lit (.int .i64 z)], p)) : a = .int .i64 x ∧ b = .int .i64 y ∧ c = .int .i64 z := by
  obtain ⟨y0, y1, y2, n, hx, _, h0, h1, h2⟩ := Go.Deep.trod_struct3 Tryd.underlying45 h
  obtain ⟨n0, e0, f0, _⟩ := DataW.trod_int Tryd.underlying3 h0
  obtain ⟨n1, e1, f1, _⟩ := DataW.trod_int Tryd.underlying3 h1
  obtain ⟨n2, e2, f2, _⟩ := DataW.trod_int Tryd.underlying3 h2
  subst f0 f1 f2
  simp only [Prod.mk.injEq, DataW.agg.injEq, List.cons.injEq, DataW.lit.injEq, Lit.int.injEq, and_true, true_and] at hx
  obtain ⟨⟨rfl, rfl, rfl⟩, _⟩ := hx
  simp only [cells3] at e0 e1 e2
  simp at e0 e1 e2
  exact ⟨e0, e1, e2⟩

theorem fifteen (l : List Value) (h : l.length = 15) : ∃ c0 c1 c2 c3 c4 c5 c6 c7 c8 c9 c10 c11 c12 c13 c14, l = [c0, c1, c2, c3, c4, c5, c6, c7, c8, c9, c10, c11, c12, c13, c14] := by
  match l, h with
  | [c0, c1, c2, c3, c4, c5, c6, c7, c8, c9, c10, c11, c12, c13, c14], _ => exact ⟨_, _, _, _, _, _, _, _, _, _, _, _, _, _, _, rfl⟩

/-- WHAT THE CONDITION GIVES: the variable's cells. -/
theorem cells_of_laid {W : World} (h : laidMetH Tryd.prog laidL W) : W.var? Tryd.prog vn = some cells15 := by
  rw [MakeChecks.laidMetH_plain _ _ _ (by kernel_rfl)] at h
  obtain ⟨ps, ⟨g, t, cs, fuel, p, q, hg, ht, hvar, hd, _, _⟩, _⟩ := h
  obtain rfl := Option.some.inj (gR.symm.trans hg)
  obtain rfl := Option.some.inj (tR.symm.trans ht)
  refine Eq.trans hvar ?_
  congr 1
  obtain ⟨l⟩ := cs
  obtain ⟨xs, m, _, hx, hlen, hn, hel⟩ := DataW.trod_array Tryd.underlying47 hd
  rw [cells47] at hlen
  obtain ⟨c0, c1, c2, c3, c4, c5, c6, c7, c8, c9, c10, c11, c12, c13, c14, rfl⟩ := fifteen l hlen
  simp only [cells45] at hel
  have hx := (Prod.mk.injEq _ _ _ _ ▸ hx).1
  match xs, hn, hx, hel with
  | [x0, x1, x2, x3, x4], _, hx, hel =>
    have h0 := hel 0 (by decide)
    have h1 := hel 1 (by decide)
    have h2 := hel 2 (by decide)
    have h3 := hel 3 (by decide)
    have h4 := hel 4 (by decide)
    simp only [Rows.laid_example_com_penelope_penelope_argChangeRules, DataW.agg.injEq, List.map_cons, List.map_nil, List.cons.injEq, and_true] at hx
    obtain ⟨k0, k1, k2, k3, k4⟩ := hx
    obtain ⟨x0, q0⟩ := x0
    obtain ⟨x1, q1⟩ := x1
    obtain ⟨x2, q2⟩ := x2
    obtain ⟨x3, q3⟩ := x3
    obtain ⟨x4, q4⟩ := x4
    simp only at k0 k1 k2 k3 k4
    subst k0 k1 k2 k3 k4
    obtain ⟨rfl, rfl, rfl⟩ := rule_cells (by simpa using h0)
    obtain ⟨rfl, rfl, rfl⟩ := rule_cells (by simpa using h1)
    obtain ⟨rfl, rfl, rfl⟩ := rule_cells (by simpa using h2)
    obtain ⟨rfl, rfl, rfl⟩ := rule_cells (by simpa using h3)
    obtain ⟨rfl, rfl, rfl⟩ := rule_cells (by simpa using h4)
    rfl

/-- the same cells read as the same table, in whatever world -/
def tableH {H : Type} : DataW H := Rows.laid_example_com_penelope_penelope_argChangeRules
theorem reads_table {H : Type} (enc : TypeId × Value → H) (W : World) (sp : Nat → Bool) : DataW.trod enc Tryd.prog W 0 sp true 4 47 cells15.toList = some (tableH, []) := by kernel_rfl

/-- The door's own heap meets the condition. -/
theorem door_met (os : Os) (args : Array Value) : laidMetH Tryd.prog laidL ((World.doorLaid Tryd.prog 400 os).forCall (fun _ _ => 0) ⟨#[], args, []⟩).memory :=
  laidMetH_of_parts3 (fuel := 8) (laidMet_of_run' 8 (by kernel_rfl) (by kernel_rfl)) (by kernel_rfl) (by kernel_rfl)

/-- WHAT IS TOLD OF A SLICE OF INTEGERS THAT CAME IN: it is nil; or it leads to a row of 'cap' cells, the numbers 'zs'. -/
def IsRow (k : IntKind) (w : World) (a : Option Addr) (len cap : Nat) (zs : List Int) : Prop :=
  (a = none ∧ len = 0 ∧ cap = 0 ∧ zs = []) ∨
  ∃ x, a = some x ∧ len ≤ cap ∧ cap ≤ maxLen ∧ zs.length = cap ∧ (∀ i, i < zs.length → w.cell? (x.add i) = some (.int k (zs.getD i 0))) ∧ ∀ n ∈ zs, (Lit.int k n).wf = true

theorem IsRow.view {k : IntKind} {w : World} {a : Option Addr} {len cap : Nat} {zs : List Int} (h : IsRow k w a len cap zs) :
    len ≤ maxLen ∧ ∃ b o, (0 < len → a = some ⟨b, o, none⟩) ∧ (0 < len → b < w.heap.size) ∧ (∀ t, t < len → w.cell? ⟨b, o + t, none⟩ = some (.int k (zs.getD t 0))) ∧ ∀ t, t < len → (Lit.int k (zs.getD t 0)).wf = true := by
  rcases h with ⟨rfl, rfl, rfl, rfl⟩ | ⟨x, rfl, hl, hm, hz, hcell, hwz⟩
  · exact ⟨Nat.zero_le _, 0, 0, fun h => by omega, fun h => by omega, fun t h => by omega, fun t h => by omega⟩
  · refine ⟨by omega, x.block, x.off, ?_, ?_, ?_, ?_⟩
    · intro h0
      have hc := hcell 0 (by omega)
      obtain ⟨b, off, spot⟩ := x
      have hspot : spot = none := by simpa [Addr.add] using World.cell?_spot hc
      subst hspot; rfl
    · intro h0
      have hc := hcell 0 (by omega)
      have hc : w.cell? x = some (.int k (zs.getD 0 0)) := by simpa [Addr.add] using hc
      rcases Nat.lt_or_ge x.block w.heap.size with h | h
      · exact h
      · simp [World.cell?, Array.getElem?_eq_none h] at hc
    · intro t ht
      have h0 := hcell 0 (by omega)
      have hc := hcell t (by omega)
      obtain ⟨b, off, spot⟩ := x
      have hspot : spot = none := by simpa [Addr.add] using World.cell?_spot h0
      subst hspot
      rwa [Addr.add_lit] at hc
    · intro t ht
      refine hwz _ ?_
      simp only [List.getD, List.getElem?_eq_getElem (show t < zs.length by omega), Option.getD_some]
      exact List.getElem_mem _

theorem walk (a b : Option Addr) (l1 c1 l2 c2 : Nat) (cs ns : List Int) (w : World) (ra : IsRow .u8 w a l1 c1 cs) (rb : IsRow .i64 w b l2 c2 ns) (hz : 0 < w.heap.size) (ht : Tab w) :
    Calls Tryd.prog 3 #[.slice a l1 c1, .slice b l2 c2] w fun e w' => e = .returned (.bool true) ∧ Below w.heap.size w w' := by
  obtain ⟨m1, b1, o1, h1, k1, d1, f1⟩ := ra.view
  obtain ⟨m2, b2, o2, h2, k2, d2, f2⟩ := rb.view
  by_cases h : l1 + l2 ≤ 1048576
  · by_cases g1 : (65536 : Int) < l1
    · exact walk_long1 a b l1 c1 l2 c2 w h g1
    · by_cases g2 : (65536 : Int) < l2
      · exact walk_long2 a b l1 c1 l2 c2 w h g1 g2
      · by_cases hne : l1 = l2
        · subst hne
          exact walk_main a b l1 c1 c2 cs ns w b1 o1 b2 o2 h g1 (fun h => ⟨h1 h, h2 h⟩) k1 k2 d1 d2 (fun t ht => (bounds_u8 (f1 t ht)).1) hz ht
        · exact walk_other a b l1 c1 l2 c2 w h g1 g2 hne
  · exact walk_no a b l1 c1 l2 c2 w m1 m2 (by omega)

set_option maxRecDepth 100000 in
theorem lifted (os : Os) (started : os.Started) (H : Type) (enc : TypeId × Value → H) :
    ReturnsInHanded {} Tryd.checked os 3 .any (fun w args => (Rows.fnArgWalkNumbersHeldInOrderSpec.pre enc Tryd.prog Tryd.f3 [] false w args ∧ laidMetH Tryd.prog laidL w) ∧ sizedMet enc Tryd.prog Tryd.f3 (OpenSpec.ofChange Rows.fnArgWalkNumbersHeldInOrderSpec) false w args)
      (Rows.fnArgWalkNumbersHeldInOrderSpec.post enc Tryd.prog Tryd.f3 false true false false) := by
  refine returnsInHanded_of_change_and (C := Tryd.checked) (X := fun w _ => laidMetH Tryd.prog laidL w) (fun _ _ _ hh h => h.of_heap hh) own started (by kernel_rfl) Tryd.func3
    (ChangeSpec.witness_shaped (enc := enc) (C := Tryd.checked) (os := os) (X := fun w _ => laidMetH Tryd.prog laidL w) false (World.doorLaid Tryd.prog 400 os) #[.slice none 0 0, .slice none 0 0] 8 rfl (World.shaped_of_RefB (by kernel_rfl) (by kernel_rfl)) (by kernel_rfl) (by kernel_rfl) (by kernel_rfl) (door_met os _)) ?_
  intro W base args ds gs before hval0 hW _ _ hL _
  have hval : ∀ (j : Nat) t v, Tryd.f3.params[j]? = some t → args[j]? = some v → Value.okWide Tryd.prog W .any base t v := hval0
  have hW' := hW
  obtain ⟨p, q, hA0, hV0, rfl, hfz, hnd⟩ := hW
  have hA : DataW.TrodAll enc Tryd.prog W 0 (fun _ => true) true Tryd.f3.params.toList args.toList ds p := hA0
  have hV : DataW.TrodVars enc Tryd.prog W (fun _ => true) [vn] gs q := hV0
  rw [Tryd.params3] at hA hval
  obtain ⟨v0, v1, d0, d1, p0, p1, rfl, rfl, rfl, h0, h1⟩ := trodAll_two hA
  obtain ⟨g, t, cs, fuel, d, p', rfl, hg, ht, hvar, hd, rfl⟩ := trodVars_one hV
  obtain rfl := Option.some.inj (gR.symm.trans hg)
  obtain rfl := Option.some.inj (tR.symm.trans ht)
  obtain rfl : cs = cells15 := Option.some.inj (hvar.symm.trans (cells_of_laid hL))
  obtain ⟨rfl, rfl⟩ := DataW.Trod.unique (v := .agg cells15) ⟨fuel, hd⟩ ⟨4, reads_table enc W _⟩
  obtain ⟨a0, len0, cap0, rfl⟩ := okWide_slice Tryd.underlying22 (hval 0 22 v0 rfl rfl)
  obtain ⟨a1, len1, cap1, rfl⟩ := okWide_slice Tryd.underlying23 (hval 1 23 v1 rfl rfl)
  have k0 := h0
  have k1 := h1
  have lt0 : ∀ x ∈ p0, x.block < W.heap.size := by obtain ⟨m, hm⟩ := k0; exact DataW.trod_lt m _ _ _ hm
  have lt1 : ∀ x ∈ p1, x.block < W.heap.size := by obtain ⟨m, hm⟩ := k1; exact DataW.trod_lt m _ _ _ hm
  obtain ⟨z0, w0⟩ : ∃ zs, IsRow .u8 W a0 len0 cap0 zs := by
    obtain ⟨fuel, hf⟩ := h0
    rcases open_ints Tryd.underlying22 Tryd.underlying5 (by kernel_rfl) hf with ⟨hcs, _⟩ | ⟨x, l, c, zs, hcs, _, hl, hm, hz, _, hcell, hwz⟩
    · simp [Value.cells] at hcs
      obtain ⟨rfl, rfl, rfl⟩ := hcs
      exact ⟨[], .inl ⟨rfl, rfl, rfl, rfl⟩⟩
    · simp [Value.cells] at hcs
      obtain ⟨rfl, rfl, rfl⟩ := hcs
      exact ⟨zs, .inr ⟨_, rfl, hl, hm, by simpa using hz, hcell, hwz⟩⟩
  obtain ⟨z1, w1⟩ : ∃ zs, IsRow .i64 W a1 len1 cap1 zs := by
    obtain ⟨fuel, hf⟩ := h1
    rcases open_ints Tryd.underlying23 Tryd.underlying3 (by kernel_rfl) hf with ⟨hcs, _⟩ | ⟨x, l, c, zs, hcs, _, hl, hm, hz, _, hcell, hwz⟩
    · simp [Value.cells] at hcs
      obtain ⟨rfl, rfl, rfl⟩ := hcs
      exact ⟨[], .inl ⟨rfl, rfl, rfl, rfl⟩⟩
    · simp [Value.cells] at hcs
      obtain ⟨rfl, rfl, rfl⟩ := hcs
      exact ⟨zs, .inr ⟨_, rfl, hl, hm, by simpa using hz, hcell, hwz⟩⟩
  clear hA0 hV0 hval0
  have hTab : Tab W := fun j hj => by
    have := World.var?_cell hg hvar j
    rw [this]
    rcases (show j = 0 ∨ j = 1 ∨ j = 2 ∨ j = 3 ∨ j = 4 ∨ j = 5 ∨ j = 6 ∨ j = 7 ∨ j = 8 ∨ j = 9 ∨ j = 10 ∨ j = 11 ∨ j = 12 ∨ j = 13 ∨ j = 14 by omega) with rfl | rfl | rfl | rfl | rfl | rfl | rfl | rfl | rfl | rfl | rfl | rfl | rfl | rfl | rfl <;> rfl
  have hz : 0 < W.heap.size := by
    have := hTab 0 (by omega)
    rcases Nat.lt_or_ge 0 W.heap.size with h | h
    · exact h
    · simp [World.cell?, Array.getElem?_eq_none h] at this
  refine (walk a0 a1 len0 cap0 len1 cap1 z0 z1 W w0 w1 hz hTab).mono fun e W' ⟨he, bel⟩ => ?_
  subst he
  have hvar' : W'.var? Tryd.prog vn = some cells15 := var?_below bel hg hz hvar
  exact ⟨_, rfl, _, _, _, [], _, MemPlace.row ⟨0, 0, none⟩ cells15.size ++ [] ++ [], hW', trodAll_mk1 (shut_bool Tryd.underlying4 _),
    trodAll_mk2 (Below.trod laidOut (by kernel_rfl) (of_decide_eq_true (by kernel_rfl)) k0 bel lt0) (Below.trod laidOut (by kernel_rfl) (of_decide_eq_true (by kernel_rfl)) k1 bel lt1),
    ⟨0, 47, cells15, 4, [], [], hg, ht, hvar', reads_table enc W' _, rfl, rfl⟩, bel.frame _, fun h => by cases h⟩

theorem row_holds : Rows.FnArgWalkNumbersHeldInOrderSaid :=
  OpenClaim.holds_of_wide 3 Tryd.f3 rfl rfl rfl rfl rfl rfl rfl ⟨rfl, rfl, rfl, rfl, rfl⟩ rfl rfl rfl rfl rfl (by kernel_rfl) Tryd.func3 (by kernel_rfl)
    (of_decide_eq_true (by kernel_rfl)) (by unfold Func.isWrapper; first | (rw [if_pos (by decide +kernel)]; kernel_rfl) | (rw [if_neg (by decide +kernel)]; exact ⟨rfl, rfl⟩))
    (fun os started H enc _ => lifted os started H enc)

theorem proved : Rows.FnArgWalkNumbersHeldInOrderCardSaid :=
  Claim7.holds_tied_plain_at .later [] [.data] true _ false
    row_holds (fun _ h => by cases h) (by kernel_rfl) (fun _ h => by cases h) fnArgWalkNumbersHeldInOrder_row_tie rfl ⟨rfl, rfl⟩ (by kernel_rfl) rfl
    (fun f fn hf hfn => by
      obtain rfl : f = 3 := Option.some.inj ((show Tryd.prog.funcNamed Rows.fnArgWalkNumbersHeldInOrderRow.func = some 3 by kernel_rfl).symm.trans hf) |>.symm
      obtain rfl : fn = Tryd.f3 := (Option.some.inj (Tryd.func3.symm.trans hfn)).symm
      exact ⟨by kernel_rfl, fun j t ht => by
        rw [Tryd.params3] at ht
        have hm : t ∈ [22, 23] := by simpa using Array.mem_of_getElem? ht
        have hall : ([22, 23].all fun u => !Tryd.prog.wantsStandIn u) = true := by kernel_rfl
        exact (show Tryd.prog.wantsStandIn t = false by simpa using List.all_eq_true.1 hall t hm)⟩)
    (by kernel_rfl)

end Go.Proofs.Qxb6615160aDoor.fnArgWalkNumbersHeldInOrder
