/-
  THE PLAIN LAWS OF SEAT b6601226a: no Go in sight: runs of backslashes, an escape scan, the end of a field.
-/
namespace Go.Proofs.Qxb6601226a.Plain

/-- The run of marked places just before place 'j', counted back no further than 'lo'. -/
def run (b : Nat → Bool) (lo : Nat) : Nat → Nat
  | 0 => 0
  | j + 1 => if decide (lo ≤ j) && b j then run b lo j + 1 else 0

theorem run_le (b : Nat → Bool) (lo j : Nat) : run b lo j ≤ j := by
  induction j with
  | zero => simp [run]
  | succ j ih => simp only [run]; split <;> omega

theorem run_yes {b : Nat → Bool} {lo j : Nat} (h : lo ≤ j) (hb : b j = true) : run b lo (j + 1) = run b lo j + 1 := by
  simp [run, h, hb]

theorem run_no {b : Nat → Bool} {lo j : Nat} (hb : b j = false) : run b lo (j + 1) = 0 := by
  simp [run, hb]

theorem run_low {b : Nat → Bool} {lo j : Nat} (h : j ≤ lo) : run b lo j = 0 := by
  cases j with
  | zero => rfl
  | succ j => simp [run]; omega

theorem run_congr {b c : Nat → Bool} {lo : Nat} (j : Nat) (h : ∀ i, i < j → b i = c i) : run b lo j = run c lo j := by
  induction j with
  | zero => rfl
  | succ j ih => simp only [run]; rw [h j (by omega), ih (fun i hi => h i (by omega))]

/-! ### names -/
/-- A backslash stands at place 'i'. -/
def bs (l : List UInt8) (i : Nat) : Bool := l.getD i 0 == 92

/-- The last byte is a dot with an even run of backslashes before it. -/
def absB (l : List UInt8) : Bool := decide (0 < l.length) && (l.getD (l.length - 1) 0 == 46) && (run (bs l) 0 (l.length - 1) % 2 == 0)

theorem bs_append {l t : List UInt8} {i : Nat} (h : i < l.length) : bs (l ++ t) i = bs l i := by
  simp [bs, List.getD_eq_getElem?_getD, List.getElem?_append_left h]

theorem run_append (l t : List UInt8) : run (bs (l ++ t)) 0 l.length = run (bs l) 0 l.length :=
  run_congr _ fun _ hi => bs_append hi

theorem abs_dot (l : List UInt8) : absB (l ++ [46]) = (run (bs l) 0 l.length % 2 == 0) := by
  unfold absB
  have h : (l ++ [46]).length - 1 = l.length := by simp
  rw [h, run_append]
  simp [List.getD_eq_getElem?_getD]

theorem run_snoc_bs (l : List UInt8) : run (bs (l ++ [92])) 0 (l ++ [92]).length = run (bs l) 0 l.length + 1 := by
  have h : (l ++ [(92 : UInt8)]).length = l.length + 1 := by simp
  rw [h, run_yes (Nat.zero_le _) (by simp [bs, List.getD_eq_getElem?_getD]), run_append]

theorem run_snoc_other (l : List UInt8) (c : UInt8) (hc : c ≠ 92) : run (bs (l ++ [c])) 0 (l ++ [c]).length = 0 := by
  have h : (l ++ [c]).length = l.length + 1 := by simp
  rw [h, run_no (by simp [bs, List.getD_eq_getElem?_getD, hc])]

theorem abs_once (l : List UInt8) : absB (l ++ [92, 46]) = ((run (bs l) 0 l.length + 1) % 2 == 0) := by
  have h : l ++ [92, 46] = (l ++ [92]) ++ [46] := by simp
  rw [h, abs_dot, run_snoc_bs]

theorem abs_twice (l : List UInt8) : absB (l ++ [92, 92, 46]) = ((run (bs l) 0 l.length + 2) % 2 == 0) := by
  have h : l ++ [92, 92, 46] = ((l ++ [92]) ++ [92]) ++ [46] := by simp
  rw [h, abs_dot, run_snoc_bs, run_snoc_bs]

theorem abs_letter (l : List UInt8) : absB (l ++ [97, 46]) = true := by
  have h : l ++ [97, 46] = (l ++ [97]) ++ [46] := by simp
  rw [h, abs_dot, run_snoc_other _ _ (by decide)]; rfl

theorem abs_bare (l : List UInt8) : absB (l ++ [97]) = false := by
  simp [absB, List.getD_eq_getElem?_getD]

/-- THE LAW OF PARITY. -/
theorem parity (l : List UInt8) : absB (l ++ [46]) = !absB (l ++ [92, 46]) ∧ absB (l ++ [92, 92, 46]) = absB (l ++ [46]) := by
  rw [abs_dot, abs_once, abs_twice]
  constructor
  · rw [Bool.eq_iff_iff]; simp; omega
  · rw [Bool.eq_iff_iff]; simp

/-! ### the escape scan from the left -/
/-- Behind 'k' bytes: the last one is a dot that is not escaped. -/
def freeDot (l : List UInt8) : Nat → Bool
  | 0 => false
  | k + 1 => (l.getD k 0 == 46) && (run (bs l) 0 k % 2 == 0)

/-- Behind 'k' bytes: the next one is escaped. -/
def esc (l : List UInt8) (k : Nat) : Bool := run (bs l) 0 k % 2 == 1

theorem freeDot_all (l : List UInt8) : freeDot l l.length = absB l := by
  cases h : l.length with
  | zero => simp [freeDot, absB, h]
  | succ n => simp [freeDot, absB, h]

theorem scan_escaped {l : List UInt8} {k : Nat} (h : esc l k = true) : esc l (k + 1) = false ∧ freeDot l (k + 1) = false := by
  unfold esc at h ⊢
  simp at h
  constructor
  · by_cases hb : bs l k = true
    · rw [run_yes (Nat.zero_le _) hb]; simp; omega
    · rw [run_no (by simpa using hb)]; rfl
  · simp [freeDot, h]

theorem scan_back {l : List UInt8} {k : Nat} (h : esc l k = false) (hb : l.getD k 0 = 92) : esc l (k + 1) = true ∧ freeDot l (k + 1) = false := by
  unfold esc at h ⊢
  simp at h
  constructor
  · rw [run_yes (Nat.zero_le _) (by unfold bs; rw [hb]; rfl)]; simp; omega
  · simp only [freeDot, hb]; rfl

theorem scan_plain {l : List UInt8} {k : Nat} (h : esc l k = false) (hb : l.getD k 0 ≠ 92) : esc l (k + 1) = false ∧ freeDot l (k + 1) = (l.getD k 0 == 46) := by
  unfold esc at h ⊢
  simp at h
  constructor
  · rw [run_no (by simpa [bs] using hb)]; rfl
  · simp only [freeDot]; rw [h]; simp

end Go.Proofs.Qxb6601226a.Plain
