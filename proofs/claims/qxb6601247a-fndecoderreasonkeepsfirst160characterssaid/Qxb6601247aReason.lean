/-
  SEAT b6601247a: THE WALKS OF 'zzChars', 'decoderReason', 'ZZdecoderReason': each lays one iterator.
-/
import Derived.Test.Qxb6601247aRows
import Derived.Test.Qxb6601247aChars
import Derived.WalkKit
import Derived.ProofKit
import Derived.OpenShut
import Derived.ShutString
import Derived.Laws.RangeString
import Derived.Laws.RangeAny
import Derived.LoopTactic
namespace Go.Proofs.Qxb6601247a.Reason
open Go.ChangeShapes Go.WideShapes Go.ChangeAt Go.RowKit
open Chars
set_option linter.unusedVariables false

theorem hide {p : Prop} (h : p) : Hid p := h
theorem ret_bool {a b : Bool} (h : a = b) : Ending.returned (.bool a) = .returned (.bool b) := by rw [h]
theorem ret_int {k : IntKind} {a b : Int} (h : a = b) : Ending.returned (.int k a) = .returned (.int k b) := by rw [h]
theorem ret_str {a b : ByteArray} (h : a = b) : Ending.returned (.string a) = .returned (.string b) := by rw [h]

/-- 'Grown': two steps; a string's iterator. -/
theorem grown_trans {a b c : World} (h : Grown a b) (k : Grown b c) : Grown a c :=
  ⟨World.keptBut_trans h.1 (by
    obtain ⟨⟨h1, h2, h3⟩, _, hs⟩ := h
    obtain ⟨k1, k2, k3⟩ := k.1
    exact ⟨k1, k2, k3⟩), fun x => (k.2.1 x).trans (h.2.1 x), Nat.le_trans h.2.2 k.2.2⟩

theorem frozen_iter (w : World) (s : ByteArray) (p : Nat) (a : Addr) : (w.iter s p).frozen? a = w.frozen? a := by
  unfold World.iter
  by_cases h : a.block = w.heap.size
  · have e1 : (w.alloc (.stringIter s p)).heap[a.block]? = some (.stringIter s p) := by rw [h]; exact (MapKept.heap_alloc w _).1
    have e2 : w.heap[a.block]? = none := by rw [h]; simp
    simp [World.frozen?, e1, e2]
  · exact World.frozen?_alloc_old _ _ _ h

theorem grown_iter (w : World) (s : ByteArray) (p : Nat) : Grown w (w.iter s p) :=
  ⟨World.keptBut_alloc _ _ _, fun a => frozen_iter w s p a, by show w.heap.size ≤ (w.heap.push _).size; simp⟩

set_option maxHeartbeats 800000 in
/-- 'zzChars': the number of characters. -/
theorem chars_any (s : ByteArray) (n : Nat) (w : World) (hs : s.size ≤ 1048576) (HN : Hid (IsCount s n)) :
    Calls Try.prog 9 #[.string s] w fun e w' => e = .returned (.int .i64 n) ∧ Grown w w' := by
  have hn := HN.out.le
  go_enter Try.func9, Try.ntmps9
  go_wp2
  go_loopw [3] (fun c w' => ∃ k : Nat, w' = w.iter s (bpos s k) ∧ c = .int .i64 k ∧ k ≤ n) (fun _ w' => s.size - w'.iterPos w.heap.size)
  case atStart => exact ⟨0, rfl, rfl, Nat.zero_le _⟩
  case round =>
    obtain ⟨k, rfl, rfl, hk⟩ := hrel
    by_cases hlt : k < n
    · have hp := HN.out.2 k hlt
      have HB := hide (bpos_next hp)
      have hwd := wid_pos s (bpos s k)
      generalize bpos s k = pos at hp HB hwd ⊢
      have hnx : ∀ ty, (Instr.next (.pointer (some ⟨w.heap.size, 0, none⟩)) true ty).run Try.prog (w.iter s pos) = _ := fun ty => run_next_any w s pos ty hp
      change 1 ≤ (Utf8.decode s pos).2 at hwd
      go_wp2
      go_roundw
      case rel => exact ⟨k + 1, by rw [HB.out]; rfl, by go_num, by omega⟩
      case measure => simp; omega
    · obtain rfl : k = n := by omega
      have hp : ¬ bpos s k < s.size := by rw [HN.out.1]; omega
      have hnx : ∀ ty, (Instr.next (.pointer (some ⟨w.heap.size, 0, none⟩)) true ty).run Try.prog (w.iter s (bpos s k)) = _ := fun ty => run_next_end w s (bpos s k) ty hp
      go_wp2
      go_ret
      exact ⟨rfl, grown_iter _ _ _⟩

/-- The ellipsis. -/
def ell : ByteArray := ⟨#[226, 128, 166]⟩

/-- What 'decoderReason' answers of a text of 'n' characters. -/
def cut (s : ByteArray) (n : Nat) : ByteArray := if n ≤ 160 then s else s.extract 0 (bpos s 160) ++ ell

set_option maxHeartbeats 800000 in
/-- 'decoderReason': a short text comes back whole. -/
theorem reason_short (s : ByteArray) (n : Nat) (w : World) (hs : s.size ≤ 1048576) (HN : Hid (IsCount s n)) (h160 : n ≤ 160) :
    Calls Try.prog 15 #[.string s] w fun e w' => e = .returned (.string s) ∧ Grown w w' := by
  go_enter Try.func15, Try.ntmps15
  go_wp2
  go_loopw [3] (fun c w' => ∃ k : Nat, w' = w.iter s (bpos s k) ∧ c = .int .i64 k ∧ k ≤ n) (fun _ w' => s.size - w'.iterPos w.heap.size)
  case atStart => exact ⟨0, rfl, rfl, Nat.zero_le _⟩
  case round =>
    obtain ⟨k, rfl, rfl, hk⟩ := hrel
    by_cases hlt : k < n
    · have hp := HN.out.2 k hlt
      have HB := hide (bpos_next hp)
      have hwd := wid_pos s (bpos s k)
      generalize bpos s k = pos at hp HB hwd ⊢
      have hnx : ∀ ty, (Instr.next (.pointer (some ⟨w.heap.size, 0, none⟩)) true ty).run Try.prog (w.iter s pos) = _ := fun ty => run_next_any w s pos ty hp
      change 1 ≤ (Utf8.decode s pos).2 at hwd
      have e160 : ((k : Int) == 160) = false := beq_eq_false_iff_ne.2 (by omega)
      go_wp2
      go_roundw
      case rel => exact ⟨k + 1, by rw [HB.out]; rfl, by go_num, by omega⟩
      case measure => simp; omega
    · obtain rfl : k = n := by omega
      have hp : ¬ bpos s k < s.size := by rw [HN.out.1]; omega
      have hnx : ∀ ty, (Instr.next (.pointer (some ⟨w.heap.size, 0, none⟩)) true ty).run Try.prog (w.iter s (bpos s k)) = _ := fun ty => run_next_end w s (bpos s k) ty hp
      go_wp2
      go_ret
      exact ⟨rfl, grown_iter _ _ _⟩

set_option maxHeartbeats 800000 in
/-- 'decoderReason': a long one is cut behind its 160th character. -/
theorem reason_long (s : ByteArray) (n : Nat) (w : World) (hs : s.size ≤ 1048576) (HN : Hid (IsCount s n)) (h160 : 160 < n) :
    Calls Try.prog 15 #[.string s] w fun e w' => e = .returned (.string (s.extract 0 (bpos s 160) ++ ell)) ∧ Grown w w' := by
  have hz : (s.extract 0 (bpos s 160)).size = bpos s 160 := by rw [ByteArray.size_extract]; have := bpos_le s 160; omega
  have hble := bpos_le s 160
  go_enter Try.func15, Try.ntmps15
  go_wp2
  go_loopw [3] (fun c w' => ∃ k : Nat, w' = w.iter s (bpos s k) ∧ c = .int .i64 k ∧ k ≤ 160) (fun _ w' => s.size - w'.iterPos w.heap.size)
  case atStart => exact ⟨0, rfl, rfl, Nat.zero_le _⟩
  case round =>
    obtain ⟨k, rfl, rfl, hk⟩ := hrel
    have hp := HN.out.2 k (by omega)
    by_cases hlt : k < 160
    · have HB := hide (bpos_next hp)
      have hwd := wid_pos s (bpos s k)
      generalize bpos s k = pos at hp HB hwd ⊢
      have hnx : ∀ ty, (Instr.next (.pointer (some ⟨w.heap.size, 0, none⟩)) true ty).run Try.prog (w.iter s pos) = _ := fun ty => run_next_any w s pos ty hp
      change 1 ≤ (Utf8.decode s pos).2 at hwd
      have e160 : ((k : Int) == 160) = false := beq_eq_false_iff_ne.2 (by omega)
      go_wp2
      go_roundw
      case rel => exact ⟨k + 1, by rw [HB.out]; rfl, by go_num, by omega⟩
      case measure => simp; omega
    · obtain rfl : k = 160 := by omega
      generalize hpos : bpos s 160 = pos at hp hz hble ⊢
      have Hpos := hide hpos
      clear hpos
      have hnx : ∀ ty, (Instr.next (.pointer (some ⟨w.heap.size, 0, none⟩)) true ty).run Try.prog (w.iter s pos) = _ := fun ty => run_next_any w s pos ty hp
      go_wp2
      go_ret
      exact ⟨ret_str (by rw [Hpos.out]; rfl), grown_iter _ _ _⟩

theorem reason_any (s : ByteArray) (n : Nat) (w : World) (hs : s.size ≤ 1048576) (HN : Hid (IsCount s n)) :
    Calls Try.prog 15 #[.string s] w fun e w' => e = .returned (.string (cut s n)) ∧ Grown w w' := by
  by_cases h : n ≤ 160
  · have e : cut s n = s := if_pos h
    rw [e]; exact reason_short s n w hs HN h
  · have e : cut s n = s.extract 0 (bpos s 160) ++ ell := if_neg h
    rw [e]; exact reason_long s n w hs HN (by omega)

set_option maxHeartbeats 400000 in
/-- 'ZZdecoderReason'. -/
theorem zzreason_any (s : ByteArray) (n : Nat) (w : World) (hs : s.size ≤ 1048576) (HN : Hid (IsCount s n)) :
    Calls Try.prog 8 #[.string s] w fun e w' => e = .returned (.string (cut s n)) ∧ Grown w w' := by
  have C := hide (reason_any s n w hs HN)
  generalize cut s n = r at C ⊢
  go_enter Try.func8, Try.ntmps8
  go_wp2_with fail
  refine C.out.mono ?_
  rintro e w' ⟨rfl, hg⟩
  go_wp2_with fail
  go_ret
  exact ⟨rfl, hg⟩

end Go.Proofs.Qxb6601247a.Reason
