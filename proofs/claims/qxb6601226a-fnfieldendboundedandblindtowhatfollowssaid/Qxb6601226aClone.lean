/-
  SEAT b6601226a: THE WALK OF 'cloneBytes': a new row with the same bytes.
-/
import Derived.Test.Qxb6601226aRows
import Derived.WalkKit
import Derived.ProofKit
import Derived.OpenShut
import Derived.Below
import Derived.Lib.SliceRun
namespace Go.Proofs.Qxb6601226a.Clone
open Go.ChangeShapes Go.WideShapes Go.ChangeAt Go.RowKit

theorem hide {p : Prop} (h : p) : Hid p := h

theorem info5 : (Try.prog.info? 5).map (fun i => (i.zero, i.size, i.bytes)) = some (some (.int .u8 0), 1, 1) := by kernel_rfl

/-- The new row's first 'k' bytes are those of 'f'; below it nothing has turned. -/
def Copied (B len : Nat) (f : Nat → Int) (k : Nat) (w wr : World) : Prop :=
  (∃ xs : List Value, wr.ownsRow B 5 1 (.slice (some ⟨B, 0, none⟩) len len) len xs ∧ ∀ i, i < k → xs[i]? = some (.int .u8 (f i))) ∧ Below B w wr

theorem copied_step {B len : Nat} {f : Nat → Int} {k : Nat} {w wr : World} (h : Copied B len f k w wr) (hk : k < len) :
    Copied B len f (k + 1) w (wr.setCell ⟨B, k, none⟩ (.int .u8 (f k))) := by
  obtain ⟨⟨xs, ho, hx⟩, hb⟩ := h
  refine ⟨⟨xs.set k (.int .u8 (f k)), (ho.stored k _).1, fun i hi => ?_⟩, hb.setCell (Nat.le_refl _) _⟩
  have hl : xs.length = len := by have := ho.1; omega
  by_cases e : i = k
  · subst e; simp [hl, hk]
  · rw [List.getElem?_set_ne (by omega)]; exact hx i (by omega)

theorem copied_cell {B len : Nat} {f : Nat → Int} {k : Nat} {w wr : World} (h : Copied B len f k w wr) (hk : k < len) :
    (∃ v, wr.cell? ⟨B, k, none⟩ = some v) ∧ wr.frozen? ⟨B, k, none⟩ = false := by
  obtain ⟨⟨xs, ho, hx⟩, hb⟩ := h
  have hl : xs.length = len := by have := ho.1; omega
  exact ⟨⟨xs[k]'(by omega), by rw [ho.cellAt k (by omega), List.getElem?_eq_getElem (by omega)]⟩, ho.frozenAt k⟩

/-- What the caller gets. -/
theorem copied_all {B len : Nat} {f : Nat → Int} {w wr : World} (h : Copied B len f len w wr) :
    (∀ i, i < len → wr.cell? ⟨B, 0 + i, none⟩ = some (.int .u8 (f i))) ∧ Below B w wr ∧ B < wr.heap.size := by
  obtain ⟨⟨xs, ho, hx⟩, hb⟩ := h
  refine ⟨fun i hi => ?_, hb, ?_⟩
  · rw [Nat.zero_add, ho.cellAt i (by omega)]; exact hx i hi
  · exact (ho.lt B rfl).2

set_option maxHeartbeats 800000 in
theorem clone_row (b off len cap : Nat) (f : Nat → Int) (w : World) (hlen : len ≤ 1048576) (hb : b < w.heap.size)
    (HC : Hid (∀ i, i < len → w.cell? ⟨b, off + i, none⟩ = some (.int .u8 (f i)))) :
    Calls Try.prog 8 #[.slice (some ⟨b, off, none⟩) len cap] w fun e w' => e = .returned (.slice (some ⟨w.heap.size, 0, none⟩) len len) ∧ Copied w.heap.size len f len w w' := by
  obtain ⟨i0, hi, hz0, hz1, hz2⟩ := info_parts info5
  have q22 : ∀ (w : World) (a : Option Addr) (n c n' c' : Nat), (binOp .eql 22 (.slice a n c) (.slice none n' c')).run Try.prog w = .ok (.bool a.isNone) w := fun w a n c n' c' => Lib.run_eql_slice_nil w 22 5 a n c n' c' Try.underlying22
  have hmb : i0.bytes * len ≤ 281474976710656 := by rw [hz2]; omega
  have hml : len ≤ maxLen := by unfold maxLen; omega
  go_enter Try.func8, Try.ntmps8
  go_wp2_with (at_make; refine wpList_make_full _ rfl _ _ 22 rfl w.heap.size 5 i0 (.int .u8 0) 1 Try.underlying22 hi hz0 hz1 _ _ _ _ len rfl rfl rfl rfl hmb hml (Nat.le_refl _) ?_; intro w1 hown hgrow)
  have hst : Copied w.heap.size len f 0 w w1 := ⟨⟨_, hown, fun i hi => by omega⟩, (Below.refl _ _).grown hgrow (Nat.le_refl _) (fun k hk => by simp at hk)⟩
  clear hown hgrow
  go_loopw [4] (fun i wr => ∃ k : Nat, k ≤ len ∧ i = .int .i64 k ∧ Hid (Copied w.heap.size len f k w wr)) (fun i _ => len - (intOf i).toNat)
  case atStart => exact ⟨0, Nat.zero_le _, rfl, hst⟩
  case round =>
    obtain ⟨k, hk, rfl, HR⟩ := hrel
    clear hst
    by_cases hlt : k < len
    · obtain ⟨⟨v, hv⟩, hf⟩ := copied_cell HR.out hlt
      have hck : wr.cell? ⟨b, off + k, none⟩ = some (.int .u8 (f k)) := (HR.out.2.cell (by exact hb)).trans (HC.out k hlt)
      have HR' := hide (copied_step HR.out hlt)
      clear HR
      go_wp2
      go_roundw
      case rel => exact ⟨k + 1, by omega, by go_num, HR'⟩
      case measure => simp [intOf]; omega
    · go_wp2
      go_ret
      have hk' : k = len := by omega
      subst hk'
      exact ⟨rfl, HR.out⟩

set_option maxHeartbeats 400000 in
theorem clone_nil (w : World) :
    Calls Try.prog 8 #[.slice none 0 0] w fun e w' => e = .returned (.slice none 0 0) ∧ w' = w := by
  have q22 : ∀ (w : World) (a : Option Addr) (n c n' c' : Nat), (binOp .eql 22 (.slice a n c) (.slice none n' c')).run Try.prog w = .ok (.bool a.isNone) w := fun w a n c n' c' => Lib.run_eql_slice_nil w 22 5 a n c n' c' Try.underlying22
  go_enter Try.func8, Try.ntmps8
  go_wp2
  go_ret
  exact ⟨rfl, rfl⟩

set_option maxHeartbeats 400000 in
theorem clone_empty (x : Addr) (cap : Nat) (f : Nat → Int) (w : World) :
    Calls Try.prog 8 #[.slice (some x) 0 cap] w fun e w' => e = .returned (.slice (some ⟨w.heap.size, 0, none⟩) 0 0) ∧ Copied w.heap.size 0 f 0 w w' := by
  obtain ⟨i0, hi, hz0, hz1, hz2⟩ := info_parts info5
  have q22 : ∀ (w : World) (a : Option Addr) (n c n' c' : Nat), (binOp .eql 22 (.slice a n c) (.slice none n' c')).run Try.prog w = .ok (.bool a.isNone) w := fun w a n c n' c' => Lib.run_eql_slice_nil w 22 5 a n c n' c' Try.underlying22
  have hmb : i0.bytes * 0 ≤ 281474976710656 := by rw [hz2]; omega
  have hml : 0 ≤ maxLen := Nat.zero_le _
  go_enter Try.func8, Try.ntmps8
  go_wp2_with (at_make; refine wpList_make_full _ rfl _ _ 22 rfl w.heap.size 5 i0 (.int .u8 0) 1 Try.underlying22 hi hz0 hz1 _ _ _ _ 0 rfl rfl rfl rfl hmb hml (Nat.le_refl _) ?_; intro w1 hown hgrow)
  have hst : Copied w.heap.size 0 f 0 w w1 := ⟨⟨_, hown, fun i hi => by omega⟩, (Below.refl _ _).grown hgrow (Nat.le_refl _) (fun k hk => by simp at hk)⟩
  clear hown hgrow
  refine wp_loop_rounds 1 ?_
  rw [rounds_succ]
  go_wp2
  go_ret
  exact ⟨rfl, hst⟩

end Go.Proofs.Qxb6601226a.Clone
