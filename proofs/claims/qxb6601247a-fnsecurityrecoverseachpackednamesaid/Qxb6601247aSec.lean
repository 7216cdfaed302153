/-
  SEAT b6601247a: THE WALK OF 'ZZsecurity' AND 'security': the piece of the text between two ends.
-/
import Derived.Test.Qxb6601247aRows
import Derived.WalkKit
import Derived.ProofKit
import Derived.OpenShut
import Derived.ShutString
import Derived.Below
import Derived.Deep.QuietTactic
import Derived.BigQuiet
import Derived.WalkSmall
namespace Go.Proofs.Qxb6601247a.Sec
open Go.ChangeShapes Go.WideShapes Go.ChangeAt Go.RowKit
set_option linter.unusedVariables false

theorem hide {p : Prop} (h : p) : Hid p := h
theorem ret_bool {a b : Bool} (h : a = b) : Ending.returned (.bool a) = .returned (.bool b) := by rw [h]
theorem ret_int {k : IntKind} {a b : Int} (h : a = b) : Ending.returned (.int k a) = .returned (.int k b) := by rw [h]
theorem ret_str {a b : ByteArray} (h : a = b) : Ending.returned (.string a) = .returned (.string b) := by rw [h]

set_option maxHeartbeats 800000 in
theorem sec_zero (s : ByteArray) (b off n cap e : Nat) (w : World) (hs : s.size ≤ 1048576) (hn : 0 < n)
    (hc : w.cell? ⟨b, off, none⟩ = some (.int .u32 (e : Int))) (he : e ≤ s.size) :
    Calls Try.prog 12 #[.string s, .slice (some ⟨b, off, none⟩) n cap, .int .i64 0] w fun r w' => r = .returned (.string (s.extract 0 e)) ∧ Below w.heap.size w w' := by
  have hb : b < w.heap.size := World.block_lt_of_cell? w _ hc
  have hn' : (0 : Int) < (n : Int) := by omega
  have hc1 : ∀ o, (w.alloc o).cell? ⟨b, off, none⟩ = some (.int .u32 (e : Int)) := fun o => by rw [World.cell?_alloc_lt w _ _ hb]; exact hc
  go_enter Try.func12, Try.ntmps12
  go_wp2
  go_quiet (fail)
  go_wp2
  go_ret
  exact ⟨rfl, below_drewN ((Below.refl _ _).alloc (Nat.le_refl _) _) nq⟩

set_option maxHeartbeats 800000 in
theorem sec_succ (s : ByteArray) (b off n cap i d e : Nat) (w : World) (hs : s.size ≤ 1048576) (hn : i + 1 < n) (hn2 : n ≤ 1048576)
    (hc0 : w.cell? ⟨b, off + i, none⟩ = some (.int .u32 (d : Int))) (hc : w.cell? ⟨b, off + (i + 1), none⟩ = some (.int .u32 (e : Int))) (hd : d ≤ e) (he : e ≤ s.size) :
    Calls Try.prog 12 #[.string s, .slice (some ⟨b, off, none⟩) n cap, .int .i64 ((i : Int) + 1)] w fun r w' => r = .returned (.string (s.extract d e)) ∧ Below w.heap.size w w' := by
  have hb : b < w.heap.size := World.block_lt_of_cell? w _ hc
  have hn' : (i : Int) + 1 < (n : Int) := by omega
  have hc1 : ∀ o, (w.alloc o).cell? ⟨b, off + (i + 1), none⟩ = some (.int .u32 (e : Int)) := fun o => by rw [World.cell?_alloc_lt w _ _ hb]; exact hc
  have hc2 : ∀ o, (w.alloc o).cell? ⟨b, off + i, none⟩ = some (.int .u32 (d : Int)) := fun o => by rw [World.cell?_alloc_lt w _ _ hb]; exact hc0
  go_enter Try.func12, Try.ntmps12
  go_wp2
  go_quiet (fail)
  go_wp2
  go_ret
  exact ⟨rfl, below_drewN ((Below.refl _ _).alloc (Nat.le_refl _) _) nq⟩

/-- The piece before end 'i' begins where the one before it ends. -/
def before (g : Nat → Nat) : Nat → Nat
  | 0 => 0
  | i + 1 => g i

/-- 'ZZsecurity(securities, ends, i)'. -/
theorem sec_any (s : ByteArray) (b off n cap i : Nat) (g : Nat → Nat) (w : World) (hs : s.size ≤ 1048576) (hi : i < n) (hn2 : n ≤ 1048576)
    (hc : ∀ j, j < n → w.cell? ⟨b, off + j, none⟩ = some (.int .u32 (g j : Int))) (hd : before g i ≤ g i) (he : g i ≤ s.size) :
    Calls Try.prog 12 #[.string s, .slice (some ⟨b, off, none⟩) n cap, .int .i64 (i : Int)] w fun r w' => r = .returned (.string (s.extract (before g i) (g i))) ∧ Below w.heap.size w w' := by
  cases i with
  | zero => exact sec_zero s b off n cap (g 0) w hs hi (hc 0 hi) he
  | succ i => exact sec_succ s b off n cap i (g i) (g (i + 1)) w hs hi hn2 (hc i (by omega)) (hc (i + 1) hi) hd he

/-! ### a row that is filled cell by cell -/
/-- The new row's first 'k' cells hold 'v'; below it nothing has turned. -/
def Filled (B len : Nat) (e : TypeId) (v : Nat → Value) (k : Nat) (w wr : World) : Prop :=
  (∃ xs : List Value, wr.ownsRow B e 1 (.slice (some ⟨B, 0, none⟩) len len) len xs ∧ ∀ i, i < k → xs[i]? = some (v i)) ∧ Below B w wr

theorem filled_step {B len : Nat} {e : TypeId} {v : Nat → Value} {k : Nat} {w wr : World} (h : Filled B len e v k w wr) (hk : k < len) :
    Filled B len e v (k + 1) w (wr.setCell ⟨B, k, none⟩ (v k)) := by
  obtain ⟨⟨xs, ho, hx⟩, hb⟩ := h
  refine ⟨⟨xs.set k (v k), (ho.stored k _).1, fun i hi => ?_⟩, hb.setCell (Nat.le_refl _) _⟩
  have hl : xs.length = len := by have := ho.1; omega
  by_cases e : i = k
  · subst e; simp [hl, hk]
  · rw [List.getElem?_set_ne (by omega)]; exact hx i (by omega)

theorem filled_cell {B len : Nat} {e : TypeId} {v : Nat → Value} {k : Nat} {w wr : World} (h : Filled B len e v k w wr) (hk : k < len) :
    (∃ u, wr.cell? ⟨B, k, none⟩ = some u) ∧ wr.frozen? ⟨B, k, none⟩ = false := by
  obtain ⟨⟨xs, ho, hx⟩, hb⟩ := h
  have hl : xs.length = len := by have := ho.1; omega
  exact ⟨⟨xs[k]'(by omega), by rw [ho.cellAt k (by omega), List.getElem?_eq_getElem (by omega)]⟩, ho.frozenAt k⟩

theorem filled_all {B len : Nat} {e : TypeId} {v : Nat → Value} {w wr : World} (h : Filled B len e v len w wr) :
    (∀ i, i < len → wr.cell? ⟨B, i, none⟩ = some (v i)) ∧ Below B w wr ∧ B < wr.heap.size := by
  obtain ⟨⟨xs, ho, hx⟩, hb⟩ := h
  exact ⟨fun i hi => by rw [ho.cellAt i (by omega)]; exact hx i hi, hb, (ho.lt B rfl).2⟩

/-! ### ends that never fall -/
theorem before_le {g : Nat → Nat} {n : Nat} (h : ∀ i, i < n → before g i ≤ g i) : ∀ j, j ≤ n → ∀ i, i < j → g i ≤ before g j := by
  intro j
  induction j with
  | zero => intro _ i hi; omega
  | succ j ih =>
    intro hj i hi
    show g i ≤ g j
    by_cases e : i = j
    · subst e; exact Nat.le_refl _
    · exact Nat.le_trans (ih (by omega) i (by omega)) (h j (by omega))

end Go.Proofs.Qxb6601247a.Sec
