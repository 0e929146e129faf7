/-
  The plain mathematics of 'span over blanks': no Go in sight.
-/
namespace Go.Proofs.Qxb6616330a

/-- space or horizontal tab, of a number -/
def blk (n : Int) : Bool := n == 32 || n == 9

/-- how many blanks a list of bytes opens with -/
def lead : List UInt8 → Nat
  | [] => 0
  | c :: l => if blk (c.toNat : Int) then lead l + 1 else 0

/-- where span stops -/
def spn (s : ByteArray) (i : Nat) : Nat := i + lead (s.data.toList.drop i)

theorem lead_le (l : List UInt8) : lead l ≤ l.length := by
  induction l with
  | nil => simp [lead]
  | cons c l ih => unfold lead; split <;> simp <;> omega

theorem drop_at (s : ByteArray) (k : Nat) (h : k < s.size) : s.data.toList.drop k = s[k] :: s.data.toList.drop (k + 1) := by
  rw [List.drop_eq_getElem_cons (by simpa using h)]; rfl

theorem spn_out (s : ByteArray) (i : Nat) (h : s.size ≤ i) : spn s i = i := by
  unfold spn
  rw [List.drop_eq_nil_of_le (by simpa using h)]; rfl

theorem spn_step (s : ByteArray) (k : Nat) (h : k < s.size) (hb : blk (s[k].toNat : Int) = true) : spn s (k + 1) = spn s k := by
  unfold spn
  rw [drop_at s k h]
  simp only [lead, hb, if_true]; omega

theorem spn_stay (s : ByteArray) (k : Nat) (h : k < s.size) (hb : blk (s[k].toNat : Int) = false) : spn s k = k := by
  unfold spn
  rw [drop_at s k h]
  simp [lead, hb]

theorem spn_ge (s : ByteArray) (i : Nat) : i ≤ spn s i := by unfold spn; omega

theorem spn_le (s : ByteArray) (i : Nat) (h : i ≤ s.size) : spn s i ≤ s.size := by
  unfold spn
  have := lead_le (s.data.toList.drop i)
  simp at this; omega

/-- inside the run every byte is blank -/
theorem spn_in (s : ByteArray) (i : Nat) : ∀ (d k : Nat), k = i + d → k < spn s i → ∀ h : k < s.size, blk (s[k].toNat : Int) = true ∧ spn s k = spn s i := by
  intro d
  induction d with
  | zero =>
    intro k e hk h
    have : k = i := by omega
    subst this
    refine ⟨?_, rfl⟩
    cases hb : blk (s[k].toNat : Int) with
    | true => rfl
    | false => have := spn_stay s k h hb; omega
  | succ d ih =>
    intro k e hk h
    have hk' : k - 1 < s.size := by omega
    obtain ⟨hb, hs⟩ := ih (k - 1) (by omega) (by omega) hk'
    have st := spn_step s (k - 1) hk' hb
    rw [show k - 1 + 1 = k from by omega] at st
    refine ⟨?_, by omega⟩
    cases hb : blk (s[k].toNat : Int) with
    | true => rfl
    | false => have := spn_stay s k h hb; omega

theorem spn_blank (s : ByteArray) (i k : Nat) (h1 : i ≤ k) (h2 : k < spn s i) (h : k < s.size) : blk (s[k].toNat : Int) = true :=
  (spn_in s i (k - i) k (by omega) h2 h).1

/-- started anew inside the run it lands at the same place -/
theorem spn_again (s : ByteArray) (i k : Nat) (h1 : i ≤ k) (h2 : k ≤ spn s i) : spn s k = spn s i := by
  by_cases e : k = spn s i
  · by_cases h : k < s.size
    · by_cases e2 : k = i
      · rw [e2]
      · have hk' : k - 1 < s.size := by omega
        obtain ⟨hb, hs⟩ := spn_in s i (k - 1 - i) (k - 1) (by omega) (by omega) hk'
        have st := spn_step s (k - 1) hk' hb
        rw [show k - 1 + 1 = k from by omega] at st
        omega
    · rw [spn_out s k (by omega)]; exact e
  · by_cases h : k < s.size
    · exact (spn_in s i (k - i) k (by omega) (by omega) h).2
    · by_cases hi : i ≤ s.size
      · have := spn_le s i hi; omega
      · have := spn_out s i (by omega); omega

theorem spn_end (s : ByteArray) (i : Nat) (h : spn s i < s.size) : blk (s[spn s i].toNat : Int) = false := by
  cases hb : blk (s[spn s i].toNat : Int) with
  | false => rfl
  | true =>
    have h1 := spn_step s (spn s i) h hb
    have h2 := spn_again s i (spn s i) (spn_ge s i) (Nat.le_refl _)
    have h3 := spn_ge s (spn s i + 1)
    omega

/-! ### the run over a list put together -/
theorem lead_append_all (l m : List UInt8) (h : lead l = l.length) : lead (l ++ m) = l.length + lead m := by
  induction l with
  | nil => simp
  | cons c l ih =>
    unfold lead at h
    split at h
    · rename_i hc
      have hl : lead l = l.length := by simpa using h
      simp only [List.cons_append, lead, hc, if_true, ih hl, List.length_cons]; omega
    · simp at h

theorem lead_append_part (l m : List UInt8) (h : lead l < l.length) : lead (l ++ m) = lead l := by
  induction l with
  | nil => simp at h
  | cons c l ih =>
    simp only [List.cons_append, lead]
    split
    · rename_i hc
      simp only [lead, hc, if_true, List.length_cons] at h
      rw [ih (by omega)]
    · rfl

theorem spn_cut_in (a b : ByteArray) (i : Nat) (hi : i < a.size) (h : spn a i < a.size) : spn (a ++ b) i = spn a i := by
  unfold spn at *
  rw [show (a ++ b).data.toList = a.data.toList ++ b.data.toList from by simp]
  have hl : (a.data.toList.drop i).length = a.size - i := by simp
  rw [List.drop_append_of_le_length (by simp; omega), lead_append_part _ _ (by omega)]

theorem spn_cut_over (a b : ByteArray) (i : Nat) (hi : i < a.size) (h : ¬ spn a i < a.size) : spn (a ++ b) i = a.size + spn b 0 := by
  have h2 := spn_le a i (by omega)
  unfold spn at *
  rw [show (a ++ b).data.toList = a.data.toList ++ b.data.toList from by simp]
  have hl : (a.data.toList.drop i).length = a.size - i := by simp
  rw [List.drop_append_of_le_length (by simp; omega), lead_append_all _ _ (by omega)]
  simp; omega

theorem spn_cut_past (a b : ByteArray) (i : Nat) (hi : a.size ≤ i) : spn (a ++ b) i = a.size + spn b (i - a.size) := by
  unfold spn
  rw [show (a ++ b).data.toList = a.data.toList ++ b.data.toList from by simp]
  rw [List.drop_append, List.drop_eq_nil_of_le (by simpa using hi)]
  simp; omega

end Go.Proofs.Qxb6616330a
