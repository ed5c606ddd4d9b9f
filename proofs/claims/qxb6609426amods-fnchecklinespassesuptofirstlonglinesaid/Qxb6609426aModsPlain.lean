/-
  THE PLAIN LAW under 'FnCheckLinesPassesUpToFirstLongLine': no Go in sight. 'st f run i': where the line begins that byte number i goes on with (f k: the k-th byte; 10: a line end), '-run' where no line end stands ahead of it.
-/
namespace Go.Proofs.Qxb6609426aMods.Lines

def st (f : Nat → Int) (run : Int) : Nat → Int
  | 0 => -run
  | i + 1 => if f i = 10 then (i : Int) + 1 else st f run i

theorem st_zero (f : Nat → Int) (run : Int) : st f run 0 = -run := rfl
theorem st_nl (f : Nat → Int) (run : Int) (i : Nat) (h : f i = 10) : st f run (i + 1) = (i : Int) + 1 := by simp [st, h]
theorem st_no (f : Nat → Int) (run : Int) (i : Nat) (h : ¬ f i = 10) : st f run (i + 1) = st f run i := by simp [st, h]

theorem st_le (f : Nat → Int) (run : Int) (hr : 0 ≤ run) : ∀ i : Nat, -run ≤ st f run i ∧ st f run i ≤ (i : Int)
  | 0 => by simp [st]; omega
  | i + 1 => by
    have ih := st_le f run hr i
    by_cases h : f i = 10
    · rw [st_nl f run i h]; omega
    · rw [st_no f run i h]; omega

theorem st_mono (f : Nat → Int) (run : Int) (hr : 0 ≤ run) (i : Nat) : ∀ d : Nat, st f run i ≤ st f run (i + d)
  | 0 => Int.le_refl _
  | d + 1 => by
    have ih := st_mono f run hr i d
    have hl := st_le f run hr (i + d)
    rw [← Nat.add_assoc]
    by_cases h : f (i + d) = 10
    · rw [st_nl f run _ h]; omega
    · rw [st_no f run _ h]; omega

theorem st_const (f : Nat → Int) (run : Int) (i : Nat) : ∀ d : Nat, (∀ k, i ≤ k → k < i + d → f k ≠ 10) → st f run (i + d) = st f run i
  | 0, _ => rfl
  | d + 1, h => by
    have ih := st_const f run i d (fun k h1 h2 => h k h1 (by omega))
    rw [← Nat.add_assoc, st_no f run _ (h (i + d) (by omega) (by omega)), ih]

/-- What 'checkLines' carries from round to round: 'from' is where the line under way begins within p (0 where it began earlier), and no line up to there was long. -/
def Upto (f : Nat → Int) (run : Int) (frm : Nat) : Prop := ∀ j : Nat, j ≤ frm → (j : Int) - st f run j < 65536
/-- The first place at which a line has 65536 bytes and no end. -/
def LongAt (f : Nat → Int) (run : Int) (k : Nat) : Prop := (k : Int) - st f run k = 65536 ∧ ∀ j : Nat, j < k → (j : Int) - st f run j < 65536

/-- What a window with a line end says. -/
theorem upto_step (f : Nat → Int) (run : Int) (hr : 0 ≤ run) (frm : Nat) (e : Nat) (h : Upto f run frm) (hnl : f (frm + e) = 10) (hw : (frm : Int) + e < st f run frm + 65536) :
    Upto f run (frm + e + 1) ∧ st f run (frm + e + 1) = ((frm + e + 1 : Nat) : Int) := by
  have e1 : st f run (frm + e + 1) = ((frm + e + 1 : Nat) : Int) := by rw [st_nl f run _ hnl]; omega
  refine ⟨fun j hj => ?_, e1⟩
  by_cases h1 : j ≤ frm
  · exact h j h1
  · by_cases h2 : j = frm + e + 1
    · subst h2; rw [e1]; omega
    · have := st_mono f run hr frm (j - frm)
      rw [show frm + (j - frm) = j by omega] at this
      omega

/-- A window without one. -/
theorem long_of (f : Nat → Int) (run : Int) (hr : 0 ≤ run) (frm d : Nat) (h : Upto f run frm) (hno : ∀ k, frm ≤ k → k < frm + d → f k ≠ 10) (hw : (frm : Int) + d = st f run frm + 65536) :
    LongAt f run (frm + d) ∧ st f run (frm + d) = st f run frm := by
  have e1 := st_const f run frm d hno
  refine ⟨⟨by rw [e1]; omega, fun j hj => ?_⟩, e1⟩
  by_cases h1 : j ≤ frm
  · exact h j h1
  · have := st_mono f run hr frm (j - frm)
    rw [show frm + (j - frm) = j by omega] at this
    omega

/-- The rest of p, shorter than a window. -/
theorem upto_end (f : Nat → Int) (run : Int) (hr : 0 ≤ run) (frm len : Nat) (h : Upto f run frm) (hw : (len : Int) < st f run frm + 65536) : Upto f run len := by
  intro j hj
  by_cases h1 : j ≤ frm
  · exact h j h1
  · have := st_mono f run hr frm (j - frm)
    rw [show frm + (j - frm) = j by omega] at this
    omega

/-- Behind the last line end of the rest. -/
theorem st_last (f : Nat → Int) (run : Int) (frm e len : Nat) (he : frm + e < len) (hnl : f (frm + e) = 10) (hno : ∀ k, frm + e < k → k < len → f k ≠ 10) : st f run len = ((frm + e + 1 : Nat) : Int) := by
  have e1 : st f run (frm + e + 1) = ((frm + e + 1 : Nat) : Int) := by rw [st_nl f run _ hnl]; omega
  have := st_const f run (frm + e + 1) (len - (frm + e + 1)) (fun k h1 h2 => hno k (by omega) (by omega))
  rw [show frm + e + 1 + (len - (frm + e + 1)) = len by omega] at this
  rw [this, e1]

theorem st_rest (f : Nat → Int) (run : Int) (frm len : Nat) (hl : frm ≤ len) (hno : ∀ k, frm ≤ k → k < len → f k ≠ 10) : st f run len = st f run frm := by
  have := st_const f run frm (len - frm) (fun k h1 h2 => hno k h1 (by omega))
  rwa [show frm + (len - frm) = len by omega] at this

/-- WHAT 'checkLines' ANSWERS (r) AND LEAVES (q), p holding the bytes 'f 0', .., 'f (len - 1)'. -/
def Answer (f : Nat → Int) (run : Int) (len : Nat) (r q : Int) : Prop :=
  (∃ k : Nat, k ≤ len ∧ LongAt f run k ∧ r = max (st f run k) 0 ∧ q = run) ∨ (Upto f run len ∧ r = (len : Int) ∧ q = (len : Int) - st f run len)

end Go.Proofs.Qxb6609426aMods.Lines
