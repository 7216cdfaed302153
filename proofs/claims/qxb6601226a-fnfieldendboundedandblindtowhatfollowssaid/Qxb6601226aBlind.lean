/-
  SEAT b6601226a: THE PLAIN LAW 'A FIELD's END IS BLIND TO WHAT FOLLOWS': no Go in sight; and the clone of whatever slice.
-/
import Derived.Test.Qxb6601226aEnds
import Derived.Test.Qxb6601226aClone
namespace Go.Proofs.Qxb6601226a.Blind
open Go.ChangeShapes Go.WideShapes Go.ChangeAt Go.RowKit
open Plain Ends

theorem hit_congr {q : Bool} {f g : Nat → Int} {lo i : Nat} (h : ∀ j, j ≤ i → g j = f j) : hit q g lo i = hit q f lo i := by
  unfold hit
  rw [h i (Nat.le_refl _), run_congr (b := bz g) (c := bz f) i (fun j hj => by unfold bz; rw [h j (by omega)])]

theorem end_spec (q : Bool) (f : Nat → Int) (n lo : Nat) (h : lo ≤ n) :
    lo ≤ endAt q f n lo ∧ endAt q f n lo ≤ n ∧ (∀ i, lo ≤ i → i < endAt q f n lo → hit q f lo i = false) ∧ (endAt q f n lo < n → hit q f lo (endAt q f n lo) = true) := by
  obtain ⟨a, b, c, d⟩ := first_spec (p := hit q f lo) (n - lo) lo
  exact ⟨a, by unfold endAt; omega, c, fun h2 => d (by unfold endAt at h2; omega)⟩

theorem end_blind {q : Bool} {f g : Nat → Int} {n m lo : Nat} (h : lo ≤ n) (hE : endAt q f n lo < n) (hg : ∀ j, j ≤ endAt q f n lo → g j = f j) (hm : endAt q f n lo < m) : endAt q g m lo = endAt q f n lo := by
  obtain ⟨a, b, c, d⟩ := end_spec q f n lo h
  refine first_eq _ _ _ a (by omega) (fun i h1 h2 => ?_) (.inl ?_)
  · rw [hit_congr (f := f) (fun j hj => hg j (by omega))]; exact c i h1 h2
  · rw [hit_congr (f := f) (fun j hj => hg j hj)]; exact d hE

/-- The line's first 'keep' bytes, then the tail. -/
def join (keep : Nat) (f t : Nat → Int) (i : Nat) : Int := if i < keep then f i else t (i - keep)
theorem join_left {keep : Nat} {f t : Nat → Int} {i : Nat} (h : i < keep) : join keep f t i = f i := if_pos h
theorem join_right {keep : Nat} {f t : Nat → Int} (i : Nat) : join keep f t (keep + i) = t i := by
  unfold join; rw [if_neg (by omega)]; congr 1; omega

/-- A quoted field that is closed. -/
theorem quoted {f : Nat → Int} {n start : Nat} (hs : start < n) (hq : f start = 34) (hr : fe f n start ≠ -1) :
    ∃ E : Nat, fe f n start = (E : Int) + 1 ∧ start + 1 ≤ E ∧ E < n ∧ f E = 34 ∧ ∀ t m, E < m → fe (join (E + 1) f t) m start = (E : Int) + 1 := by
  rw [fe_quoted hq] at hr ⊢
  by_cases hE : endAt true f n (start + 1) < n
  · rw [if_pos hE]
    obtain ⟨a, b, c, d⟩ := end_spec true f n (start + 1) (by omega)
    have h := d hE
    refine ⟨_, rfl, a, hE, ?_, fun t m hm => ?_⟩
    · simp only [hit, ender, Bool.and_eq_true, if_true, beq_iff_eq] at h; exact h.1
    · rw [fe_quoted (by rw [join_left (by omega)]; exact hq), end_blind (f := f) (n := n) (by omega) hE (fun j hj => join_left (by omega)) hm, if_pos hm]
  · rw [if_neg hE] at hr; exact absurd rfl hr

/-- A field that is not quoted: it ends within the line. -/
theorem plain {f : Nat → Int} {n start : Nat} (hs : start < n) (hq : f start ≠ 34) :
    ∃ E : Nat, fe f n start = (E : Int) ∧ start ≤ E ∧ E ≤ n ∧ (E < n → stopB (f E) = true ∧ ∀ t m, E < m → fe (join (E + 1) f t) m start = (E : Int)) := by
  obtain ⟨a, b, c, d⟩ := end_spec false f n start (by omega)
  refine ⟨_, fe_plain hq, a, b, fun hE => ⟨?_, fun t m hm => ?_⟩⟩
  · have h := d hE
    simp only [hit, ender, Bool.and_eq_true] at h; exact h.1
  · rw [fe_plain (by rw [join_left (by omega)]; exact hq), end_blind (f := f) (n := n) (by omega) hE (fun j hj => join_left (by omega)) hm]

/-- 'cloneBytes' of whatever slice: nil, empty or not. -/
theorem clone_any (a : Option Addr) (len cap : Nat) (f : Nat → Int) (w : World) (hlen : len ≤ 1048576) (hnil : a = none → len = 0 ∧ cap = 0)
    (hrow : 0 < len → ∃ b off, a = some ⟨b, off, none⟩ ∧ ∀ i, i < len → w.cell? ⟨b, off + i, none⟩ = some (.int .u8 (f i))) :
    Calls Try.prog 8 #[.slice a len cap] w fun e w' => ∃ ta : Option Addr, e = .returned (.slice ta len len) ∧ Below w.heap.size w w' ∧
      (0 < len → ∃ B, ta = some ⟨B, 0, none⟩ ∧ B < w'.heap.size ∧ ∀ i, i < len → w'.cell? ⟨B, i, none⟩ = some (.int .u8 (f i))) := by
  by_cases h0 : 0 < len
  · obtain ⟨b, off, rfl, hc⟩ := hrow h0
    have hb : b < w.heap.size := World.block_lt_of_cell? w _ (hc 0 h0)
    refine (Clone.clone_row b off len cap f w hlen hb hc).mono ?_
    rintro e w1 ⟨rfl, hcop⟩
    obtain ⟨hcell, hbel, hlt⟩ := Clone.copied_all hcop
    exact ⟨_, rfl, hbel, fun _ => ⟨_, rfl, hlt, fun i hi => by have := hcell i hi; rwa [Nat.zero_add] at this⟩⟩
  · obtain rfl : len = 0 := by omega
    cases a with
    | none =>
      obtain ⟨_, rfl⟩ := hnil rfl
      refine (Clone.clone_nil w).mono ?_
      rintro e w1 ⟨rfl, rfl⟩
      exact ⟨_, rfl, Below.refl _ _, fun h => absurd h (by omega)⟩
    | some x =>
      refine (Clone.clone_empty x cap f w).mono ?_
      rintro e w1 ⟨rfl, hcop⟩
      exact ⟨_, rfl, hcop.2, fun h => absurd h (by omega)⟩

end Go.Proofs.Qxb6601226a.Blind
