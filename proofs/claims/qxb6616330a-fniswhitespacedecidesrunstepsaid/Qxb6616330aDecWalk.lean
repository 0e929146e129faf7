/-
  The walk of FnIsWhitespaceDecidesRunStep.
-/
import Derived.Test.Qxb6616330aSpan
import Derived.OpenShut
import Derived.Maps.AppendAt
import Derived.Laws.BytesArg
namespace Go.Proofs.Qxb6616330a.fnIsWhitespaceDecidesRunStep
open Go.RowKit

/-! ### plain: n copies of c ahead of s -/
def nums (s : ByteArray) : List Int := s.data.toList.map fun b => (b.toNat : Int)
def upto (c : Int) (n : Nat) (s : ByteArray) (k : Nat) : List Int := List.replicate n c ++ (nums s).take k

theorem nums_length (s : ByteArray) : (nums s).length = s.size := by simp [nums]
theorem upto_length (c : Int) (n : Nat) (s : ByteArray) (k : Nat) (h : k ≤ s.size) : (upto c n s k).length = n + k := by
  simp [upto, nums_length]; omega
theorem upto_zero (c : Int) (n : Nat) (s : ByteArray) : upto c n s 0 = List.replicate n c := by simp [upto]
theorem upto_snoc (c : Int) (n : Nat) (s : ByteArray) (k : Nat) (h : k < s.size) : upto c n s (k + 1) = upto c n s k ++ [(s[k].toNat : Int)] := by
  unfold upto
  have h' : k < (nums s).length := by rw [nums_length]; exact h
  rw [List.take_succ_eq_append_getElem h', List.append_assoc]
  congr 2
  simp [nums]; rfl
theorem upto_all (c : Int) (n : Nat) (s : ByteArray) : upto c n s s.size = List.replicate n c ++ nums s := by
  unfold upto; rw [List.take_of_length_le (by rw [nums_length]; omega)]

theorem data_back (c : Int) (n : Nat) (s : ByteArray) : (strOfNums (List.replicate n c ++ nums s)).data.toList = List.replicate n (UInt8.ofNat c.toNat) ++ s.data.toList := by
  rw [strOfNums_data, List.map_append, List.map_replicate]
  congr 1
  simp [nums, List.map_map, Function.comp_def]

theorem blk_byte (c : Int) (h0 : 0 ≤ c) (h1 : c ≤ 255) : blk ((UInt8.ofNat c.toNat).toNat : Int) = blk c := by
  congr 1
  simp; omega

theorem lead_rep_yes (C : UInt8) (n : Nat) (l : List UInt8) (h : blk (C.toNat : Int) = true) : lead (List.replicate n C ++ l) = n + lead l := by
  induction n with
  | zero => simp
  | succ n ih => simp only [List.replicate_succ, List.cons_append, lead, h, if_true, ih]; omega

theorem lead_rep_no (C : UInt8) (n : Nat) (l : List UInt8) (h : blk (C.toNat : Int) = false) (hn : 0 < n) : lead (List.replicate n C ++ l) = 0 := by
  cases n with
  | zero => omega
  | succ n => simp [List.replicate_succ, lead, h]

theorem spn_yes (c : Int) (n : Nat) (s : ByteArray) (h0 : 0 ≤ c) (h1 : c ≤ 255) (h : blk c = true) : spn (strOfNums (List.replicate n c ++ nums s)) 0 = n + spn s 0 := by
  unfold spn
  rw [data_back, List.drop_zero, List.drop_zero, lead_rep_yes _ _ _ (by rw [blk_byte c h0 h1]; exact h)]; omega

theorem spn_no (c : Int) (n : Nat) (s : ByteArray) (h0 : 0 ≤ c) (h1 : c ≤ 255) (h : blk c = false) (hn : 0 < n) : spn (strOfNums (List.replicate n c ++ nums s)) 0 = 0 := by
  unfold spn
  rw [data_back, List.drop_zero, lead_rep_no _ _ _ (by rw [blk_byte c h0 h1]; exact h) hn]

theorem spn_none (c : Int) (s : ByteArray) : spn (strOfNums (List.replicate 0 c ++ nums s)) 0 = spn s 0 := by
  unfold spn
  rw [data_back]; simp

/-! ### the small callees -/
set_option maxHeartbeats 400000 in
theorem bytes_yes (c : Int) (s : ByteArray) (n : Int) (w : World) (h : s.size ≤ 1048576) :
    Calls Try.prog 12 #[.int .u8 c, .string s, .int .i64 n] w fun e w' => e = .returned (.bool true) ∧ w' = w := by
  go_enter Try.func12, Try.ntmps12
  go_wp2
  go_ret
  exact ⟨rfl, rfl⟩

set_option maxHeartbeats 400000 in
theorem bytes_no (c : Int) (s : ByteArray) (n : Int) (w : World) (hs : s.size ≤ maxLen) (h : 1048576 < s.size) :
    Calls Try.prog 12 #[.int .u8 c, .string s, .int .i64 n] w fun e w' => e = .returned (.bool false) ∧ w' = w := by
  unfold maxLen at hs
  go_enter Try.func12, Try.ntmps12
  go_wp2
  go_ret
  exact ⟨rfl, rfl⟩

set_option maxHeartbeats 400000 in
theorem zisWs_any (n : Int) (w : World) :
    Calls Try.prog 13 #[.int .u8 n] w fun e w' => e = .returned (.bool (blk n)) ∧ w' = w := by
  go_enter Try.func13, Try.ntmps13
  go_wp2_with (go_at_call 24; refine (isWs_any _ _).mono ?_; rintro e w' ⟨rfl, rfl⟩)
  go_ret
  exact ⟨rfl, rfl⟩

set_option maxHeartbeats 400000 in
theorem walk_no (c : Int) (s : ByteArray) (n : Int) (w : World) (hs : s.size ≤ maxLen) (h : 1048576 < s.size) :
    Calls Try.prog 5 #[.int .u8 c, .string s, .int .i64 n] w fun e w' => e = .returned (.bool true) ∧ w' = w := by
  go_enter Try.func5, Try.ntmps5
  go_wp2_with (go_at_call 12; refine (bytes_no _ _ _ _ hs h).mono ?_; rintro e w' ⟨rfl, rfl⟩)
  go_ret
  exact ⟨rfl, rfl⟩

set_option maxHeartbeats 400000 in
theorem walk_neg (c : Int) (s : ByteArray) (n : Int) (w : World) (hs : s.size ≤ 1048576) (h : n < 0) :
    Calls Try.prog 5 #[.int .u8 c, .string s, .int .i64 n] w fun e w' => e = .returned (.bool true) ∧ w' = w := by
  go_enter Try.func5, Try.ntmps5
  go_wp2_with (go_at_call 12; refine (bytes_yes _ _ _ _ hs).mono ?_; rintro e w' ⟨rfl, rfl⟩)
  go_ret
  exact ⟨rfl, rfl⟩

set_option maxHeartbeats 400000 in
theorem walk_big (c : Int) (s : ByteArray) (n : Int) (w : World) (hs : s.size ≤ 1048576) (h : ¬ n < 0) (h2 : 65536 < n) :
    Calls Try.prog 5 #[.int .u8 c, .string s, .int .i64 n] w fun e w' => e = .returned (.bool true) ∧ w' = w := by
  go_enter Try.func5, Try.ntmps5
  go_wp2_with (go_at_call 12; refine (bytes_yes _ _ _ _ hs).mono ?_; rintro e w' ⟨rfl, rfl⟩)
  go_ret
  exact ⟨rfl, rfl⟩

set_option maxHeartbeats 400000 in
theorem walk_long (c : Int) (s : ByteArray) (n : Int) (w : World) (hs : s.size ≤ 1048576) (h : ¬ n < 0) (h2 : ¬ 65536 < n) (h3 : 1048576 - n < s.size) :
    Calls Try.prog 5 #[.int .u8 c, .string s, .int .i64 n] w fun e w' => e = .returned (.bool true) ∧ w' = w := by
  go_enter Try.func5, Try.ntmps5
  go_wp2_with (go_at_call 12; refine (bytes_yes _ _ _ _ hs).mono ?_; rintro e w' ⟨rfl, rfl⟩)
  go_ret
  exact ⟨rfl, rfl⟩

theorem info5 : (Try.prog.info? 5).map (fun i => (i.zero, i.size, i.bytes)) = some (some (.int .u8 0), 1, 1) := by kernel_rfl

theorem keepw {P : Program} {f : FuncId} {a : Array Value} {w : World} {E : Ending} (h : Calls P f a w fun e w' => e = E ∧ w' = w) : Calls P f a w fun e w' => e = E ∧ w = w' :=
  h.mono fun _ _ ⟨x, y⟩ => ⟨x, y.symm⟩

theorem conv_at {w wr : World} {c : Int} {n : Nat} {s : ByteArray} {cap : Nat} (hown : wr.ownsRow w.heap.size 5 1 (.slice (some ⟨w.heap.size, 0, none⟩) (n + s.size) cap) (n + s.size) ((List.replicate n c ++ nums s).map (Value.int .u8))) :
    (convert 27 9 (.slice (some ⟨w.heap.size, 0, none⟩) (n + s.size) cap)).run Try.prog wr = .ok (.string (strOfNums (List.replicate n c ++ nums s))) wr := by
  refine run_convert_bytes_arg wr 27 5 Try.underlying27 Try.underlying5 w.heap.size 0 (n + s.size) cap _ (by simp [nums_length]) ?_ 9 Try.underlying9
  intro i hi
  have hl : (List.replicate n c ++ nums s).length = n + s.size := by simp [nums_length]
  have := hown.cells (g := w.heap.size) rfl i (.int .u8 ((List.replicate n c ++ nums s).getD i 0)) (by
    rw [List.getElem?_map, List.getElem?_eq_getElem (by omega)]
    simp only [Option.map_some, List.getD, List.getElem?_eq_getElem (show i < (List.replicate n c ++ nums s).length by omega), Option.getD_some])
  rwa [Addr.add_lit] at this

set_option maxHeartbeats 1000000 in
theorem walk_main (c : Int) (s : ByteArray) (n : Nat) (w : World) (hc0 : 0 ≤ c) (hc1 : c ≤ 255) (hn : n ≤ 65536) (hs : n + s.size ≤ 1048576) :
    Calls Try.prog 5 #[.int .u8 c, .string s, .int .i64 (n : Int)] w fun e w' => e = .returned (.bool true) ∧ Below w.heap.size w w' := by
  obtain ⟨i0, hi, hz0, hz1, hz2⟩ := info_parts info5
  obtain ⟨b, hb⟩ : ∃ b, blk c = b := ⟨_, rfl⟩
  have g1 : ¬ (n : Int) < 0 := by omega
  have g2 : ¬ (65536 : Int) < n := by omega
  have g3 : ¬ (1048576 : Int) - n < s.size := by omega
  go_enter Try.func5, Try.ntmps5
  go_wp2_with (first
    | (go_at_call 12; refine (keepw (bytes_yes _ _ _ _ (by omega))).mono ?_; rintro e w' ⟨rfl, rfl⟩)
    | (go_at_call 10; refine (keepw (isBlank_any _ _)).mono ?_; rintro e w' ⟨rfl, rfl⟩)
    | (go_at_call 13; refine (keepw (zisWs_any _ _)).mono ?_; rintro e w' ⟨rfl, rfl⟩)
    | (at_make; refine wpList_make_own _ rfl _ _ 27 rfl w.heap.size 5 i0 (.int .u8 0) 1 Try.underlying27 hi hz0 hz1 _ _ _ (n + s.size) rfl rfl (by omega) (by rw [hz2]; omega) (by unfold maxLen; omega) (Nat.le_refl _) ?_))
  intro w2 hown2 hgrow2
  have hb2 : Below w.heap.size w w2 := (Below.refl _ _).grown hgrow2 (Nat.le_refl _) (by simp)
  have hlt2 : w.heap.size < w2.heap.size := (hown2.lt _ rfl).2
  go_wp2
  go_loopw [8, 9] (fun v i wr => ∃ k : Nat, k ≤ n ∧ i = .int .i64 (k : Int) ∧ v = .slice (some ⟨w.heap.size, 0, none⟩) k (n + s.size) ∧
      wr.ownsRow w.heap.size 5 1 (.slice (some ⟨w.heap.size, 0, none⟩) k (n + s.size)) k ((List.replicate k c).map (Value.int .u8)) ∧ Below w.heap.size w wr)
    (fun _ i _ => n - (intOf i).toNat)
  case atStart => exact ⟨0, Nat.zero_le _, rfl, rfl, hown2, hb2⟩
  case round =>
    obtain ⟨k, hk, rfl, rfl, hown, hnx⟩ := hrel
    have hsize := hnx.size
    clear hown2 hgrow2 hb2 hlt2
    by_cases hlt : k < n
    · go_wp2_with (at_builtin; refine wpList_append_fits _ rfl (.tmp 46) (.tmp 48) 27 rfl w.heap.size 5 i0 1 Try.underlying27 hi hz1 w.heap.size k (n + s.size) _ rfl (hown.alloc _) ⟨wr.heap.size, 0, none⟩ 1 1 [.int .u8 c] rfl rfl (cell_one_new _ _ _) (ints_oneCell .u8 [c]) (by omega) ?_; intro w4 hown4 hgrow4)
      go_roundw
      case rel =>
        refine ⟨k + 1, by omega, by go_num, rfl, ?_, ?_⟩
        · rw [List.replicate_succ', List.map_append]; exact hown4
        · exact (hnx.alloc hsize _).grown hgrow4 (by simp; omega) (fun j hj => by cases hj; omega)
      case measure => simp [intOf]; omega
    · obtain rfl : n = k := by omega
      obtain ⟨wo, rfl⟩ : ∃ wo : World, wo = wr := ⟨_, rfl⟩
      go_wp2
      go_loopw [8, 10] (fun v i wr => ∃ k : Nat, k ≤ s.size ∧ i = .int .i64 (k : Int) ∧ v = .slice (some ⟨w.heap.size, 0, none⟩) (n + k) (n + s.size) ∧
          wr.ownsRow w.heap.size 5 1 (.slice (some ⟨w.heap.size, 0, none⟩) (n + k) (n + s.size)) (n + k) ((upto c n s k).map (Value.int .u8)) ∧ Below w.heap.size w wr)
        (fun _ i _ => s.size - (intOf i).toNat)
      case atStart => exact ⟨0, Nat.zero_le _, rfl, rfl, by rw [upto_zero]; exact hown, hnx⟩
      case round =>
        clear hown hnx hsize
        obtain ⟨k, hk, rfl, rfl, hown, hnx⟩ := hrel
        have hsize := hnx.size
        by_cases hlt : k < s.size
        · go_wp2_with (at_builtin; refine wpList_append_fits _ rfl (.tmp 56) (.tmp 60) 27 rfl w.heap.size 5 i0 1 Try.underlying27 hi hz1 w.heap.size (n + k) (n + s.size) _ rfl (hown.alloc _) ⟨wr.heap.size, 0, none⟩ 1 1 [.int .u8 (s[k].toNat : Int)] rfl rfl (cell_one_new _ _ _) (ints_oneCell .u8 [(s[k].toNat : Int)]) (by omega) ?_; intro w4 hown4 hgrow4)
          go_roundw
          case rel =>
            refine ⟨k + 1, by omega, by go_num, rfl, ?_, ?_⟩
            · rw [upto_snoc c n s k hlt, List.map_append]; exact hown4
            · exact (hnx.alloc hsize _).grown hgrow4 (by simp; omega) (fun j hj => by cases hj; omega)
          case measure => simp [intOf]; omega
        · obtain rfl : k = s.size := by omega
          rw [upto_all] at hown
          have hcv := conv_at hown
          obtain ⟨W, hW⟩ : ∃ W, strOfNums (List.replicate n c ++ nums s) = W := ⟨_, rfl⟩
          have HW : Hid (strOfNums (List.replicate n c ++ nums s) = W) := hW
          rw [hW] at hcv
          have hws : W.size ≤ 1048576 := by rw [← hW, strOfNums_size]; simp [nums_length]; omega
          obtain ⟨q, hq⟩ : ∃ q, spn s 0 = q := ⟨_, rfl⟩
          have hql : q ≤ s.size := by rw [← hq]; exact spn_le s 0 (by omega)
          have HQ : Hid (spn s 0 = q) := hq
          clear hW hq hown
          have HB : Hid (blk c = b) := hb
          clear hb
          cases b with
          | true =>
            have HR : Hid (spn W 0 = n + q) := show _ = _ from by rw [← HW.out, spn_yes c n s hc0 hc1 HB.out, HQ.out]
            go_wp2_with fail
            refine (keepw (zspan_to W _ 0 (n + q) _ hws (by omega) rfl HR.out)).mono ?_
            rintro e w' ⟨rfl, rfl⟩
            go_wp2_with fail
            refine (keepw (zspan_to s _ 0 q _ (by omega) (by omega) rfl HQ.out)).mono ?_
            rintro e w' ⟨rfl, rfl⟩
            go_wp2
            go_ret
            exact ⟨ret_bool (by simp), hnx⟩
          | false =>
            by_cases h0 : n = 0
            · have hp : (n : Int) ≤ 0 := by omega
              have HR : Hid (spn W 0 = q) := show _ = _ from by rw [← HW.out, h0, spn_none c s, HQ.out]
              clear h0
              go_wp2_with fail
              refine (keepw (zspan_to W _ 0 q _ hws (by omega) rfl HR.out)).mono ?_
              rintro e w' ⟨rfl, rfl⟩
              go_wp2_with fail
              refine (keepw (zspan_to s _ 0 q _ (by omega) (by omega) rfl HQ.out)).mono ?_
              rintro e w' ⟨rfl, rfl⟩
              go_wp2
              go_ret
              exact ⟨ret_bool (by simp), hnx⟩
            · have hp : (0 : Int) < n := by omega
              have HR : Hid (spn W 0 = 0) := show _ = _ from by rw [← HW.out, spn_no c n s hc0 hc1 HB.out (by omega)]
              go_wp2_with fail
              refine (keepw (zspan_to W _ 0 0 _ hws (by omega) rfl HR.out)).mono ?_
              rintro e w' ⟨rfl, rfl⟩
              go_wp2_with fail
              refine (keepw (zspan_to s _ 0 q _ (by omega) (by omega) rfl HQ.out)).mono ?_
              rintro e w' ⟨rfl, rfl⟩
              go_wp2
              go_ret
              exact ⟨ret_bool (by simp), hnx⟩

end Go.Proofs.Qxb6616330a.fnIsWhitespaceDecidesRunStep
