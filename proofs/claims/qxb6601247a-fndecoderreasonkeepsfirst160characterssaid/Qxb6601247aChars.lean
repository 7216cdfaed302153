/-
  SEAT b6601247a: THE PLAIN LAW OF CHARACTERS: over the model's own decoder: where each character begins; a text cut at a character's beginning.
-/
import Derived.Laws.RangeAny
namespace Go.Proofs.Qxb6601247a.Chars

/-- How wide a character is that begins with these bytes ('r1' ..: the second byte lies within the text ..). -/
def decW (b0 b1 b2 b3 : Nat) (r1 r2 r3 : Bool) : Nat :=
  if b0 < 0x80 then 1
  else if b0 / 32 == 6 && (r1 && b1 / 64 == 2) then
    (if (b0 % 32) * 64 + b1 % 64 ≥ 0x80 then 2 else 1)
  else if b0 / 16 == 14 && (r1 && b1 / 64 == 2) && (r2 && b2 / 64 == 2) then
    (if (b0 % 16) * 4096 + (b1 % 64) * 64 + b2 % 64 ≥ 0x800 && Utf8.valid (((b0 % 16) * 4096 + (b1 % 64) * 64 + b2 % 64 : Nat) : Int) then 3 else 1)
  else if b0 / 8 == 30 && (r1 && b1 / 64 == 2) && (r2 && b2 / 64 == 2) && (r3 && b3 / 64 == 2) then
    (if (b0 % 8) * 262144 + (b1 % 64) * 4096 + (b2 % 64) * 64 + b3 % 64 ≥ 0x10000 && Utf8.valid (((b0 % 8) * 262144 + (b1 % 64) * 4096 + (b2 % 64) * 64 + b3 % 64 : Nat) : Int) then 4 else 1)
  else 1

/-- The width of the character at place 'p'. -/
def wid (s : ByteArray) (p : Nat) : Nat := (Utf8.decode s p).2

def byt (s : ByteArray) (p : Nat) : Nat := (s.get! p).toNat

theorem wid_eq (s : ByteArray) (p : Nat) : wid s p = decW (byt s (p + 0)) (byt s (p + 1)) (byt s (p + 2)) (byt s (p + 3)) (p + 1 < s.size) (p + 2 < s.size) (p + 3 < s.size) := by
  unfold wid Utf8.decode decW byt
  simp only [apply_ite Prod.snd]

theorem decW_spec (b0 b1 b2 b3 : Nat) (r1 r2 r3 : Bool) : 1 ≤ decW b0 b1 b2 b3 r1 r2 r3 ∧ decW b0 b1 b2 b3 r1 r2 r3 ≤ 4 ∧ (2 ≤ decW b0 b1 b2 b3 r1 r2 r3 → r1 = true) ∧ (3 ≤ decW b0 b1 b2 b3 r1 r2 r3 → r2 = true) ∧ (4 ≤ decW b0 b1 b2 b3 r1 r2 r3 → r3 = true) := by
  unfold decW
  repeat' split
  all_goals simp_all

theorem decW_cut (b0 b1 b2 b3 c1 c2 c3 : Nat) (r1 r2 r3 q1 q2 q3 : Bool) (h1 : q1 = true → r1 = true ∧ c1 = b1) (h2 : q2 = true → r2 = true ∧ c2 = b2) (h3 : q3 = true → r3 = true ∧ c3 = b3)
    (w1 : 2 ≤ decW b0 b1 b2 b3 r1 r2 r3 → q1 = true) (w2 : 3 ≤ decW b0 b1 b2 b3 r1 r2 r3 → q2 = true) (w3 : 4 ≤ decW b0 b1 b2 b3 r1 r2 r3 → q3 = true) :
    decW b0 c1 c2 c3 q1 q2 q3 = decW b0 b1 b2 b3 r1 r2 r3 := by
  obtain ⟨s1, _, _⟩ := decW_spec b0 b1 b2 b3 r1 r2 r3
  cases q1 with
  | false =>
    have e : decW b0 b1 b2 b3 r1 r2 r3 = 1 := by
      by_cases h : 2 ≤ decW b0 b1 b2 b3 r1 r2 r3
      · exact absurd (w1 h) (by simp)
      · omega
    rw [e]; simp [decW]
  | true =>
    obtain ⟨rfl, rfl⟩ := h1 rfl
    cases q2 with
    | false =>
      have e : ¬ 3 ≤ decW b0 c1 b2 b3 true r2 r3 := fun h => absurd (w2 h) (by simp)
      clear w1 w2 w3 h1 h2 h3 s1
      unfold decW at e ⊢
      split
      · rfl
      · rename_i hA
        rw [if_neg hA] at e
        split
        · rfl
        · rename_i hB
          rw [if_neg hB] at e
          simp only [Bool.false_and, Bool.and_false, Bool.false_eq_true, if_false]
          repeat' split
          all_goals first | rfl | (simp_all; done)
    | true =>
      obtain ⟨rfl, rfl⟩ := h2 rfl
      cases q3 with
      | false =>
        have e : ¬ 4 ≤ decW b0 c1 c2 b3 true true r3 := fun h => absurd (w3 h) (by simp)
        clear w1 w2 w3 h1 h2 h3 s1
        unfold decW at e ⊢
        split
        · rfl
        · rename_i hA
          rw [if_neg hA] at e
          split
          · rfl
          · rename_i hB
            rw [if_neg hB] at e
            split
            · rfl
            · rename_i hC
              rw [if_neg hC] at e
              simp only [Bool.false_and, Bool.and_false, Bool.false_eq_true, if_false]
              repeat' split
              all_goals first | rfl | (simp_all; done)
      | true =>
        obtain ⟨rfl, rfl⟩ := h3 rfl
        rfl

theorem byt_extract (s : ByteArray) (q e p : Nat) (he : e ≤ s.size) (h : q + p < e) : byt (s.extract q e) p = byt s (q + p) := by
  have h1 : p < (s.extract q e).size := by rw [ByteArray.size_extract]; omega
  have a := get_at (s.extract q e) p h1
  have b := get_at s (q + p) (by omega)
  simp only [Nat.add_zero] at a b
  unfold byt
  rw [a, b, ByteArray.getElem_extract]

theorem wid_pos (s : ByteArray) (p : Nat) : 1 ≤ wid s p := by
  rw [wid_eq]; exact (decW_spec _ _ _ _ _ _ _).1

theorem wid_le (s : ByteArray) (p : Nat) (h : p < s.size) : p + wid s p ≤ s.size := by
  obtain ⟨a, b, c, d, e⟩ := decW_spec (byt s (p + 0)) (byt s (p + 1)) (byt s (p + 2)) (byt s (p + 3)) (p + 1 < s.size) (p + 2 < s.size) (p + 3 < s.size)
  rw [← wid_eq] at a b c d e
  simp only [decide_eq_true_eq] at c d e
  omega

theorem wid_drop (s : ByteArray) (q p : Nat) (h : q + p < s.size) : wid (s.extract q s.size) p = wid s (q + p) := by
  have hz : (s.extract q s.size).size = s.size - q := by rw [ByteArray.size_extract]; omega
  obtain ⟨a, b, c, d, e⟩ := decW_spec (byt s (q + p + 0)) (byt s (q + p + 1)) (byt s (q + p + 2)) (byt s (q + p + 3)) (q + p + 1 < s.size) (q + p + 2 < s.size) (q + p + 3 < s.size)
  simp only [decide_eq_true_eq] at c d e
  rw [wid_eq, wid_eq s (q + p), hz, byt_extract s q s.size (p + 0) (Nat.le_refl _) (by omega), show q + (p + 0) = q + p + 0 by omega]
  refine decW_cut _ _ _ _ _ _ _ _ _ _ _ _ _ ?_ ?_ ?_ ?_ ?_ ?_
  · simp only [decide_eq_true_eq]; intro h; exact ⟨by omega, by rw [byt_extract s q s.size (p + 1) (Nat.le_refl _) (by omega), show q + (p + 1) = q + p + 1 by omega]⟩
  · simp only [decide_eq_true_eq]; intro h; exact ⟨by omega, by rw [byt_extract s q s.size (p + 2) (Nat.le_refl _) (by omega), show q + (p + 2) = q + p + 2 by omega]⟩
  · simp only [decide_eq_true_eq]; intro h; exact ⟨by omega, by rw [byt_extract s q s.size (p + 3) (Nat.le_refl _) (by omega), show q + (p + 3) = q + p + 3 by omega]⟩
  · intro h; have := c h; simp only [decide_eq_true_eq]; omega
  · intro h; have := d h; simp only [decide_eq_true_eq]; omega
  · intro h; have := e h; simp only [decide_eq_true_eq]; omega

theorem wid_take (s : ByteArray) (q p : Nat) (hq : q ≤ s.size) (h : p < q) (hw : p + wid s p ≤ q) : wid (s.extract 0 q) p = wid s p := by
  have hz : (s.extract 0 q).size = q := by rw [ByteArray.size_extract]; omega
  have hb : ∀ k, p + k < q → byt (s.extract 0 q) (p + k) = byt s (p + k) := fun k hk => by
    rw [byt_extract s 0 q (p + k) hq (by omega), Nat.zero_add]
  rw [wid_eq] at hw
  rw [wid_eq, wid_eq s p, hz, hb 0 (by omega)]
  refine decW_cut _ _ _ _ _ _ _ _ _ _ _ _ _ ?_ ?_ ?_ ?_ ?_ ?_
  · simp only [decide_eq_true_eq]; intro h; exact ⟨by omega, hb 1 h⟩
  · simp only [decide_eq_true_eq]; intro h; exact ⟨by omega, hb 2 h⟩
  · simp only [decide_eq_true_eq]; intro h; exact ⟨by omega, hb 3 h⟩
  · intro h; simp only [decide_eq_true_eq]; omega
  · intro h; simp only [decide_eq_true_eq]; omega
  · intro h; simp only [decide_eq_true_eq]; omega

/-- Where the k-th character begins (the text's end, where there are fewer). -/
def bpos (s : ByteArray) : Nat → Nat
  | 0 => 0
  | k + 1 => if bpos s k < s.size then bpos s k + wid s (bpos s k) else bpos s k

theorem bpos_next {s : ByteArray} {k : Nat} (h : bpos s k < s.size) : bpos s (k + 1) = bpos s k + wid s (bpos s k) := by
  simp only [bpos]; rw [if_pos h]

theorem bpos_le (s : ByteArray) (k : Nat) : bpos s k ≤ s.size := by
  induction k with
  | zero => exact Nat.zero_le _
  | succ k ih =>
    by_cases h : bpos s k < s.size
    · rw [bpos_next h]; exact wid_le s _ h
    · simp only [bpos]; rw [if_neg h]; exact ih

theorem bpos_mono (s : ByteArray) (k : Nat) : bpos s k ≤ bpos s (k + 1) := by
  by_cases h : bpos s k < s.size
  · rw [bpos_next h]; omega
  · simp only [bpos]; rw [if_neg h]; exact Nat.le_refl _

theorem bpos_mono' (s : ByteArray) (j d : Nat) : bpos s j ≤ bpos s (j + d) := by
  induction d with
  | zero => exact Nat.le_refl _
  | succ d ih => exact Nat.le_trans ih (bpos_mono s (j + d))

/-- The text has 'n' characters. -/
def IsCount (s : ByteArray) (n : Nat) : Prop := bpos s n = s.size ∧ ∀ k, k < n → bpos s k < s.size

theorem count_ge {s : ByteArray} {k : Nat} (h : ∀ j, j < k → bpos s j < s.size) : k ≤ bpos s k := by
  induction k with
  | zero => exact Nat.zero_le _
  | succ k ih =>
    have := ih (fun j hj => h j (by omega))
    rw [bpos_next (h k (by omega))]
    have := wid_pos s (bpos s k)
    omega

theorem IsCount.le {s : ByteArray} {n : Nat} (h : IsCount s n) : n ≤ s.size := by
  have := count_ge h.2
  rw [h.1] at this
  exact this

theorem count_from (s : ByteArray) : ∀ fuel k, s.size ≤ k + fuel → (∀ j, j < k → bpos s j < s.size) → ∃ n, IsCount s n := by
  intro fuel
  induction fuel with
  | zero =>
    intro k hk h
    have := count_ge h
    have := bpos_le s k
    exact ⟨k, by omega, h⟩
  | succ f ih =>
    intro k hk h
    by_cases e : bpos s k < s.size
    · refine ih (k + 1) (by omega) (fun j hj => ?_)
      by_cases e2 : j = k
      · subst e2; exact e
      · exact h j (by omega)
    · have := bpos_le s k
      exact ⟨k, by omega, h⟩

theorem count_exists (s : ByteArray) : ∃ n, IsCount s n := count_from s s.size 0 (by omega) (fun j hj => by omega)

/-- A text cut where its k-th character begins: its head has k characters. -/
theorem count_take {s : ByteArray} {n m : Nat} (h : IsCount s n) (hm : m ≤ n) : IsCount (s.extract 0 (bpos s m)) m := by
  have hz : (s.extract 0 (bpos s m)).size = bpos s m := by rw [ByteArray.size_extract]; have := bpos_le s m; omega
  have hlt : ∀ j, j < m → bpos s j < bpos s m := by
    intro j hj
    obtain ⟨d, rfl⟩ : ∃ d, m = j + 1 + d := ⟨m - (j + 1), by omega⟩
    have := bpos_mono' s (j + 1) d
    have e := bpos_next (h.2 j (by omega))
    have := wid_pos s (bpos s j)
    omega
  have hsame : ∀ j, j ≤ m → bpos (s.extract 0 (bpos s m)) j = bpos s j := by
    intro j
    induction j with
    | zero => intro _; rfl
    | succ j ih =>
      intro hj
      have e := ih (by omega)
      have hj' := hlt j (by omega)
      have hs := bpos_next (h.2 j (by omega))
      obtain ⟨d, hd⟩ : ∃ d, m = j + 1 + d := ⟨m - (j + 1), by omega⟩
      have hmn : bpos s (j + 1) ≤ bpos s m := by rw [hd]; exact bpos_mono' s (j + 1) d
      rw [bpos_next (by rw [e, hz]; exact hj'), e, wid_take s (bpos s m) (bpos s j) (bpos_le s m) hj' (by omega), hs]
  refine ⟨?_, fun k hk => ?_⟩
  · rw [hsame m (Nat.le_refl _), hz]
  · rw [hsame k (by omega), hz]; exact hlt k hk

/-- .. and its rest the others. -/
theorem count_drop {s : ByteArray} {n m : Nat} (h : IsCount s n) (hm : m ≤ n) : IsCount (s.extract (bpos s m) s.size) (n - m) := by
  have hz : (s.extract (bpos s m) s.size).size = s.size - bpos s m := by rw [ByteArray.size_extract]; omega
  have hsame : ∀ j, m + j ≤ n → bpos s m + bpos (s.extract (bpos s m) s.size) j = bpos s (m + j) := by
    intro j
    induction j with
    | zero => intro _; rfl
    | succ j ih =>
      intro hj
      have e := ih (by omega)
      have hj' := h.2 (m + j) (by omega)
      have hs := bpos_next hj'
      rw [bpos_next (by rw [hz]; omega), wid_drop s (bpos s m) _ (by omega), ← Nat.add_assoc, e]
      exact hs.symm
  refine ⟨?_, fun k hk => ?_⟩
  · have := hsame (n - m) (by omega)
    rw [show m + (n - m) = n by omega, h.1] at this
    omega
  · have := hsame k (by omega)
    have := h.2 (m + k) (by omega)
    omega

end Go.Proofs.Qxb6601247a.Chars
