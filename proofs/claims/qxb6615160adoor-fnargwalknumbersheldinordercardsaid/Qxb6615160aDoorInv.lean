/-
  The walk's memory: the row of steps, the matcher, the walk; what each part of the law does to them. No walk of Go text stands here.
-/
import Derived.Test.Qxb6615160aDoorNext
import Derived.Test.Qxb6615160aDoorFit
namespace Go.Proofs.Qxb6615160aDoor
open Go.RowKit

/-- block S is a row of n steps, the first k of them laid -/
def Row (w : World) (S : Nat) (cs ns : List Int) (n k : Nat) : Prop :=
  ∃ cur : Array Value, w.heap[S]? = some (.cells cur 28) ∧ cur.size = n * 2 ∧ ∀ t, t < k → cur[t * 2]? = some (.int .u8 (cs.getD t 0)) ∧ cur[t * 2 + 1]? = some (.int .i64 (ns.getD t 0))

theorem row_made {w : World} {B S n : Nat} {xs : List Value} {cs ns : List Int} (h : w.ownsRow B 28 2 (.slice (some ⟨S, 0, none⟩) n n) n xs) : Row w S cs ns n 0 := by
  obtain ⟨_, h | ⟨g, cap, cur, e, _, hg, _, _, hs, _⟩⟩ := h
  · obtain ⟨h, _⟩ := h; cases h
  · cases e
    exact ⟨cur, hg, hs, fun t ht => by omega⟩

theorem Row.lt {w : World} {S : Nat} {cs ns : List Int} {n k : Nat} (h : Row w S cs ns n k) : S < w.heap.size := by
  obtain ⟨cur, h, _⟩ := h; exact lt_of_block h

theorem Row.free {w : World} {S : Nat} {cs ns : List Int} {n k : Nat} (h : Row w S cs ns n k) (j : Nat) : w.frozen? ⟨S, j, none⟩ = false := by
  obtain ⟨cur, h, _⟩ := h; exact b_free h j

theorem Row.there {w : World} {S : Nat} {cs ns : List Int} {n k : Nat} (h : Row w S cs ns n k) (j : Nat) (hj : j < n * 2) : ∃ v, w.cell? ⟨S, j, none⟩ = some v := by
  obtain ⟨cur, h, hs, _⟩ := h
  rw [b_cell h j]
  exact ⟨_, Array.getElem?_eq_getElem (by omega)⟩

theorem Row.same {w w' : World} {S : Nat} {cs ns : List Int} {n k : Nat} (h : Row w S cs ns n k) (e : w'.heap[S]? = w.heap[S]?) : Row w' S cs ns n k := by
  obtain ⟨cur, h, hs, hr⟩ := h
  exact ⟨cur, by rw [e]; exact h, hs, hr⟩

theorem Row.at0 {w : World} {S : Nat} {cs ns : List Int} {n k : Nat} (h : Row w S cs ns n k) (t : Nat) (ht : t < k) : w.cell? ⟨S, t * 2, none⟩ = some (.int .u8 (cs.getD t 0)) := by
  obtain ⟨cur, h, _, hr⟩ := h; rw [b_cell h]; exact (hr t ht).1
theorem Row.at1 {w : World} {S : Nat} {cs ns : List Int} {n k : Nat} (h : Row w S cs ns n k) (t : Nat) (ht : t < k) : w.cell? ⟨S, t * 2 + 1, none⟩ = some (.int .i64 (ns.getD t 0)) := by
  obtain ⟨cur, h, _, hr⟩ := h; rw [b_cell h]; exact (hr t ht).2

theorem Row.step {w : World} {S : Nat} {cs ns : List Int} {n k : Nat} (h : Row w S cs ns n k) (hk : k < n) :
    Row ((w.setCell ⟨S, k * 2, none⟩ (.int .u8 (cs.getD k 0))).setCell ⟨S, k * 2 + 1, none⟩ (.int .i64 (ns.getD k 0))) S cs ns n (k + 1) := by
  obtain ⟨cur, h, hs, hr⟩ := h
  refine ⟨_, b_set (b_set h _ _) _ _, by simpa using hs, fun t ht => ?_⟩
  by_cases e : t = k
  · subst e
    constructor
    · rw [Array.getElem?_setIfInBounds_ne (by omega), Array.getElem?_setIfInBounds_self_of_lt (by omega)]
    · rw [Array.getElem?_setIfInBounds_self_of_lt (by simp; omega)]
  · constructor
    · rw [Array.getElem?_setIfInBounds_ne (by omega), Array.getElem?_setIfInBounds_ne (by omega)]; exact (hr t (by omega)).1
    · rw [Array.getElem?_setIfInBounds_ne (by omega), Array.getElem?_setIfInBounds_ne (by omega)]; exact (hr t (by omega)).2

theorem Row.alloc {w : World} {S : Nat} {cs ns : List Int} {n k : Nat} (h : Row w S cs ns n k) (o : Obj) : Row (w.alloc o) S cs ns n k :=
  h.same (Below.heap_alloc w o S h.lt)
theorem Row.drew {w : World} {S : Nat} {cs ns : List Int} {n k : Nat} (h : Row w S cs ns n k) : Row w.drew S cs ns n k := h.same rfl

/-- how many are held ahead of step k -/
def hld (cs ns : List Int) : Nat → Int
  | 0 => 0
  | k + 1 => hld cs ns k + if cs.getD k 0 = 3 then 0 else ns.getD k 0

theorem fit_tot {cs ns : List Int} {len : Nat} (h : Fit cs ns len) : ∀ k, k ≤ len → 0 ≤ hld cs ns k ∧ hld cs ns k ≤ tot ns k ∧ tot ns k ≤ 65536
  | 0, _ => by simp [hld, tot]
  | k + 1, hk => by
    obtain ⟨a, b, c⟩ := fit_tot h k (by omega)
    obtain ⟨_, e, f⟩ := h k (by omega)
    refine ⟨?_, ?_, f⟩
    · simp only [hld]; split <;> omega
    · simp only [hld, tot]; split <;> omega

/-- where the walk stands behind j calls inside step k of N arguments -/
def stOf (k : Nat) (N j : Int) : Int := if j = N then (k : Int) + 1 else (k : Int)
def dnOf (N j : Int) : Int := if j = N then 0 else j
def hdOf (c g j : Int) : Int := if c = 3 then g else g + j

/-- the law's memory: old blocks as they were; the row of steps; the matcher; the walk at (st, dn, hd) -/
structure Inv (w W : World) (S q p : Nat) (cs ns : List Int) (n : Nat) (st dn hd : Int) : Prop where
  bel : Below w.heap.size w W
  row : Row W S cs ns n n
  mat : W.cell? ⟨q, 4, none⟩ = some (.slice (some ⟨S, 0, none⟩) n n)
  wlk : W.heap[p]? = some (.cells #[.pointer (some ⟨q, 0, none⟩), .int .i64 st, .int .i64 dn, .int .i64 hd] 42)
  hS : w.heap.size ≤ S
  hq : S < q
  hp : q < p

theorem Inv.qlt {w W : World} {S q p : Nat} {cs ns : List Int} {n : Nat} {st dn hd : Int} (h : Inv w W S q p cs ns n st dn hd) : q < W.heap.size := by
  have := lt_of_block h.wlk
  have := h.hp
  omega

theorem Inv.step {w W W' : World} {S q p : Nat} {cs ns : List Int} {n : Nat} {st dn hd st' dn' hd' : Int} (h : Inv w W S q p cs ns n st dn hd)
    (a : At W W' p #[.pointer (some ⟨q, 0, none⟩), .int .i64 st', .int .i64 dn', .int .i64 hd']) : Inv w W' S q p cs ns n st' dn' hd' := by
  have hpl := lt_of_block h.wlk
  have hq := h.hq
  have hp := h.hp
  have hS := h.hS
  have hb := h.bel.size
  refine ⟨?_, ?_, ?_, a.2, h.hS, h.hq, h.hp⟩
  · exact h.bel.grown a.1 hb (fun k hk => by cases hk; omega)
  · exact h.row.same (a.1.block S (by omega) (by intro e; cases e; omega))
  · exact a.1.cell h.mat (by intro e; have e : q = p := Option.some.inj e; omega)

theorem Inv.made {w W : World} {S n : Nat} {cs ns : List Int} (bel : Below w.heap.size w W) (row : Row W S cs ns n n) (hS : w.heap.size ≤ S) :
    Inv w ((W.alloc (.cells #[.slice none 0 0, .int .i64 0, .int .i64 0, .nilIface, .slice (some ⟨S, 0, none⟩) n n, .slice none 0 0, .slice none 0 0, .int .i64 0, .int .i64 0] 40)).alloc (.cells #[.pointer (some ⟨W.heap.size, 0, none⟩), .int .i64 0, .int .i64 0, .int .i64 0] 42))
      S W.heap.size (W.heap.size + 1) cs ns n 0 0 0 := by
  refine ⟨(bel.alloc bel.size _).alloc (by have := bel.size; simp; omega) _, (row.alloc _).alloc _, ?_, ?_, hS, row.lt, by omega⟩
  · simp
  · show ((W.heap.push _).push _)[W.heap.size + 1]? = _
    rw [Array.getElem?_push, if_pos (by simp)]

theorem Inv.tab {w W : World} {S q p : Nat} {cs ns : List Int} {n : Nat} {st dn hd : Int} (h : Inv w W S q p cs ns n st dn hd) (hz : 0 < w.heap.size) (ht : Tab w) : Tab W :=
  fun j hj => (h.bel.cell (p := ⟨0, j, none⟩) hz).trans (ht j hj)

theorem inner_next {w W : World} {S q p : Nat} {cs ns : List Int} {n k : Nat} (j : Nat) (g N c : Int) (hz : 0 < w.heap.size) (ht : Tab w) (hk : k < n) (hn : n ≤ 65536)
    (hc : cs.getD k 0 = c) (hN : ns.getD k 0 = N) (hc0 : 0 ≤ c) (hc4 : c ≤ 4) (hj : (j : Int) < N) (hN1 : N ≤ 65536) (hg : 0 ≤ g) (hg1 : g ≤ 65536) (hg2 : ¬ c = 3 → g + N ≤ 65536)
    (h : Inv w W S q p cs ns n (stOf k N j) (dnOf N j) (hdOf c g j)) :
    Calls Tryd.prog 9 #[.pointer (some ⟨p, 0, none⟩)] W fun e w' => e = .returned (.int .i64 (if c = 3 then -1 else g + j)) ∧
      Inv w w' S q p cs ns n (stOf k N ((j : Int) + 1)) (dnOf N ((j : Int) + 1)) (hdOf c g ((j : Int) + 1)) := by
  have e1 : stOf k N j = (k : Int) := by unfold stOf; rw [if_neg (by omega)]
  have e2 : dnOf N j = (j : Int) := by unfold dnOf; rw [if_neg (by omega)]
  rw [e1, e2] at h
  have hd0 : 0 ≤ hdOf c g j := by unfold hdOf; split <;> omega
  have hd1 : hdOf c g j ≤ 65536 := by
    unfold hdOf
    by_cases h3 : c = 3
    · rw [if_pos h3]; exact hg1
    · rw [if_neg h3]; have := hg2 h3; omega
  have e3 : (if c = 3 then -1 else hdOf c g j) = (if c = 3 then -1 else g + j) := by
    unfold hdOf; split <;> rfl
  have e4 : (if c = 3 then hdOf c g j else hdOf c g j + 1) = hdOf c g ((j : Int) + 1) := by
    unfold hdOf; split <;> omega
  have hzW : 0 < W.heap.size := by have := h.bel.size; omega
  have hx := next_any W p q S n k (j : Int) (hdOf c g j) N c hzW (h.tab hz ht) hc0 hc4 hk hn h.wlk h.mat (by rw [← hc]; exact h.row.at0 k hk) (by rw [← hN]; exact h.row.at1 k hk) (by omega) (by omega) hd0 hd1 h.qlt h.row.lt
  rw [e3, e4] at hx
  exact znext_any W p _ _ (hx.mono fun e w' ⟨a, b⟩ => ⟨a, h.step b⟩)

end Go.Proofs.Qxb6615160aDoor
