/-
  SEAT b6601226a: THE PLAIN LAW OF A FIELD's END: no Go in sight. 'f i': the byte at place i of the line.
-/
import Derived.Test.Qxb6601226aPlain
namespace Go.Proofs.Qxb6601226a.Ends
open Plain

/-- The least place from 'j' on, within 'n' places, at which 'p' says yes; else 'j + n'. -/
def first (p : Nat → Bool) : Nat → Nat → Nat
  | j, 0 => j
  | j, n + 1 => if p j then j else first p (j + 1) n

theorem first_eq {p : Nat → Bool} (n : Nat) : ∀ (lo j : Nat), lo ≤ j → j ≤ lo + n → (∀ i, lo ≤ i → i < j → p i = false) → (p j = true ∨ j = lo + n) → first p lo n = j := by
  induction n with
  | zero => intro lo j h1 h2 _ _; simp only [first]; omega
  | succ n ih =>
    intro lo j h1 h2 hno hyes
    simp only [first]
    by_cases e : lo = j
    · subst e
      rcases hyes with h | h
      · rw [if_pos h]
      · omega
    · rw [if_neg (by rw [hno lo (Nat.le_refl _) (by omega)]; simp)]
      exact ih (lo + 1) j (by omega) (by omega) (fun i hi hj => hno i (by omega) hj) (by rcases hyes with h | h; exact .inl h; exact .inr (by omega))

theorem first_spec {p : Nat → Bool} (n : Nat) : ∀ lo, lo ≤ first p lo n ∧ first p lo n ≤ lo + n ∧ (∀ i, lo ≤ i → i < first p lo n → p i = false) ∧ (first p lo n < lo + n → p (first p lo n) = true) := by
  induction n with
  | zero => intro lo; simp only [first]; exact ⟨by omega, by omega, fun i h1 h2 => by omega, fun h => by omega⟩
  | succ n ih =>
    intro lo
    simp only [first]
    by_cases h : p lo = true
    · rw [if_pos h]; exact ⟨by omega, by omega, fun i h1 h2 => by omega, fun _ => h⟩
    · rw [if_neg h]
      obtain ⟨a, b, c, d⟩ := ih (lo + 1)
      refine ⟨by omega, by omega, fun i h1 h2 => ?_, fun h2 => d (by omega)⟩
      by_cases e : i = lo
      · subst e; simpa using h
      · exact c i (by omega) h2

/-- The bytes that end a field which is not quoted. -/
def stopB (c : Int) : Bool := c == 32 || c == 9 || c == 59 || c == 40 || c == 41 || c == 34

/-- A backslash stands at place 'i'. -/
def bz (f : Nat → Int) (i : Nat) : Bool := f i == 92

/-- The byte at 'i' would end the field ('q': a quoted one). -/
def ender (q : Bool) (c : Int) : Bool := if q then c == 34 else stopB c

/-- It ends it: it is not escaped. -/
def hit (q : Bool) (f : Nat → Int) (lo i : Nat) : Bool := ender q (f i) && (run (bz f) lo i % 2 == 0)

/-- The field's end among 'n' bytes, looked for from 'lo' on; 'n' if there is none. -/
def endAt (q : Bool) (f : Nat → Int) (n lo : Nat) : Nat := first (hit q f lo) lo (n - lo)

/-- WHAT 'fieldEnd' ANSWERS. -/
def fe (f : Nat → Int) (n start : Nat) : Int :=
  if f start = 34 then (if endAt true f n (start + 1) < n then (endAt true f n (start + 1) : Int) + 1 else -1) else (endAt false f n start : Int)

theorem ender_bs (q : Bool) : ender q 92 = false := by cases q <;> decide

/-- The scan's state: the next place 'k' (it may lie one past the end) is not escaped; no place before it ends the field. -/
def Scanned (q : Bool) (f : Nat → Int) (n lo k : Nat) : Prop :=
  lo ≤ k ∧ k ≤ n + 1 ∧ run (bz f) lo k % 2 = 0 ∧ ∀ j, lo ≤ j → j < k → hit q f lo j = false

theorem scanned_start (q : Bool) (f : Nat → Int) {n lo : Nat} (h : lo ≤ n + 1) : Scanned q f n lo lo :=
  ⟨Nat.le_refl _, h, by rw [run_low (Nat.le_refl _)], fun j h1 h2 => by omega⟩

theorem scanned_escape {q : Bool} {f : Nat → Int} {n lo k : Nat} (h : Scanned q f n lo k) (hk : k < n) (hb : f k = 92) : Scanned q f n lo (k + 2) := by
  obtain ⟨a, b, c, d⟩ := h
  have hr : run (bz f) lo (k + 1) = run (bz f) lo k + 1 := run_yes a (by simp [bz, hb])
  refine ⟨by omega, by omega, ?_, fun j h1 h2 => ?_⟩
  · cases hb2 : bz f (k + 1) with
    | true => rw [run_yes (by omega) hb2, hr]; omega
    | false => rw [run_no hb2]
  · by_cases e : j = k
    · subst e; simp [hit, hb, ender_bs]
    · by_cases e2 : j = k + 1
      · subst e2; simp only [hit, hr]
        have : ((run (bz f) lo k + 1) % 2 == 0) = false := by simp; omega
        rw [this]; simp
      · exact d j h1 (by omega)

theorem scanned_step {q : Bool} {f : Nat → Int} {n lo k : Nat} (h : Scanned q f n lo k) (hk : k < n) (hb : f k ≠ 92) (he : ender q (f k) = false) : Scanned q f n lo (k + 1) := by
  obtain ⟨a, b, c, d⟩ := h
  refine ⟨by omega, by omega, ?_, fun j h1 h2 => ?_⟩
  · rw [run_no (by simpa [bz] using hb)]
  · by_cases e : j = k
    · subst e; simp [hit, he]
    · exact d j h1 (by omega)

theorem scanned_found {q : Bool} {f : Nat → Int} {n lo k : Nat} (h : Scanned q f n lo k) (hk : k < n) (he : ender q (f k) = true) : endAt q f n lo = k := by
  obtain ⟨a, b, c, d⟩ := h
  exact first_eq _ _ _ a (by omega) d (.inl (by simp [hit, he, c]))

theorem scanned_end {q : Bool} {f : Nat → Int} {n lo k : Nat} (h : Scanned q f n lo k) (hl : lo ≤ n) (hk : n ≤ k) : endAt q f n lo = n := by
  obtain ⟨a, b, c, d⟩ := h
  exact first_eq _ _ _ hl (by omega) (fun i h1 h2 => d i h1 (by omega)) (.inr (by omega))

/-- The model's state: no place before 'k' ends the field. -/
def Sought (q : Bool) (f : Nat → Int) (n lo k : Nat) : Prop :=
  lo ≤ k ∧ k ≤ n ∧ ∀ j, lo ≤ j → j < k → hit q f lo j = false

theorem sought_start (q : Bool) (f : Nat → Int) {n lo : Nat} (h : lo ≤ n) : Sought q f n lo lo :=
  ⟨Nat.le_refl _, h, fun j h1 h2 => by omega⟩

theorem sought_step {q : Bool} {f : Nat → Int} {n lo k : Nat} (h : Sought q f n lo k) (hk : k < n) (he : hit q f lo k = false) : Sought q f n lo (k + 1) := by
  obtain ⟨a, b, d⟩ := h
  refine ⟨by omega, by omega, fun j h1 h2 => ?_⟩
  by_cases e : j = k
  · subst e; exact he
  · exact d j h1 (by omega)

theorem sought_found {q : Bool} {f : Nat → Int} {n lo k : Nat} (h : Sought q f n lo k) (hk : k < n) (he : hit q f lo k = true) : endAt q f n lo = k := by
  obtain ⟨a, b, d⟩ := h
  exact first_eq _ _ _ a (by omega) d (.inl he)

theorem sought_end {q : Bool} {f : Nat → Int} {n lo k : Nat} (h : Sought q f n lo k) (hl : lo ≤ n) (hk : n ≤ k) : endAt q f n lo = n := by
  obtain ⟨a, b, d⟩ := h
  exact first_eq _ _ _ hl (by omega) (fun i h1 h2 => d i h1 (by omega)) (.inr (by omega))

theorem fe_quoted {f : Nat → Int} {n start : Nat} (hq : f start = 34) : fe f n start = if endAt true f n (start + 1) < n then (endAt true f n (start + 1) : Int) + 1 else -1 := by
  unfold fe; rw [if_pos hq]
theorem fe_plain {f : Nat → Int} {n start : Nat} (hq : f start ≠ 34) : fe f n start = (endAt false f n start : Int) := by
  unfold fe; rw [if_neg hq]

end Go.Proofs.Qxb6601226a.Ends
