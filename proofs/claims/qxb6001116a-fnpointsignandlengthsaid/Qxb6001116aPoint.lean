/-
  SEAT b6001116a: THE WALKS OF 'point' AND 'ZZpoint'.
-/
import Derived.Test.Qxb6001116aRows
import Derived.Test.Qxb6001116aShelf
import Derived.WalkKit
import Derived.ProofKit
import Derived.OpenShut
import Derived.ShutString
import Derived.Below
import Derived.Deep.QuietTactic
import Derived.BigQuiet
import Derived.WalkSmall
namespace Go.Proofs.Qxb6001116a.Point
open Go.ChangeShapes Go.WideShapes Go.ChangeAt Go.RowKit
set_option linter.unusedVariables false

theorem hide {p : Prop} (h : p) : Hid p := h
theorem ret_bool {a b : Bool} (h : a = b) : Ending.returned (.bool a) = .returned (.bool b) := by rw [h]
theorem ret_str {a b : ByteArray} (h : a = b) : Ending.returned (.string a) = .returned (.string b) := by rw [h]

set_option maxHeartbeats 400000 in
/-- No decimals. -/
theorem point_none (s d : ByteArray) (sc : Int) (w : World) (hs : s.size + d.size ≤ 1048576) (h : sc ≤ 0) :
    Calls Try.prog 31 #[.string s, .string d, .int .i64 sc] w fun e w' => e = .returned (.string (s ++ d)) ∧ w' = w := by
  go_enter Try.func31, Try.ntmps31
  go_wp2
  go_ret
  exact ⟨rfl, rfl⟩

set_option maxHeartbeats 800000 in
/-- Digits enough. -/
theorem point_long (s d x y : ByteArray) (m sc : Nat) (w : World) (hs : s.size + d.size ≤ 1048576) (h : 0 < sc) (hd : d.size = m + sc) (hm : 0 < m) (hx : x.size = m) (hy : y.size = sc)
    (e1 : d.extract 0 m = x) (e2 : d.extract m (m + sc) = y) :
    Calls Try.prog 31 #[.string s, .string d, .int .i64 sc] w fun e w' => e = .returned (.string (s ++ x ++ ⟨#[46]⟩ ++ y)) ∧ Below w.heap.size w w' := by
  go_enter Try.func31, Try.ntmps31
  go_wp2
  go_quiet (fail)
  go_wp2
  go_ret
  exact ⟨rfl, below_drewN (Below.refl _ _) nq⟩

set_option maxHeartbeats 800000 in
/-- Digits that are filled up with 'r', 'c' zeros. -/
theorem point_short (s d r D x y : ByteArray) (c sc : Nat) (w : World) (hs : s.size + d.size ≤ 1048576) (h : 0 < sc) (hsc : sc ≤ 65536) (hd : d.size + c = sc + 1) (hc : 0 < c) (hr : r.size = c)
    (e0 : r ++ d = D) (hD : D.size = 1 + sc) (hx : x.size = 1) (hy : y.size = sc) (e1 : D.extract 0 1 = x) (e2 : D.extract 1 (1 + sc) = y)
    (C : Hid (Calls Try.prog 34 #[.string ⟨#[48]⟩, .int .i64 ((sc : Int) + 1 - (d.size : Int))] w fun e w' => e = .returned (.string r) ∧ Below w.heap.size w w')) :
    Calls Try.prog 31 #[.string s, .string d, .int .i64 sc] w fun e w' => e = .returned (.string (s ++ x ++ ⟨#[46]⟩ ++ y)) ∧ Below w.heap.size w w' := by
  go_enter Try.func31, Try.ntmps31
  go_wp2_with fail
  refine C.out.mono ?_
  rintro e w1 ⟨rfl, hb⟩
  go_wp2_with fail
  go_quiet (fail)
  go_wp2
  go_ret
  exact ⟨rfl, below_drewN hb nq⟩

/-! ### the plain text -/
/-- The digits, filled up with zeros to one more than 'sc'. -/
def pad (d : ByteArray) (sc : Nat) : ByteArray := if d.size ≤ sc then ⟨(Lib.repeatL [48] (sc + 1 - d.size)).toArray⟩ ++ d else d
def head (d : ByteArray) (sc : Nat) : ByteArray := (pad d sc).extract 0 ((pad d sc).size - sc)
def rest (d : ByteArray) (sc : Nat) : ByteArray := (pad d sc).extract ((pad d sc).size - sc) (pad d sc).size

theorem zeros_size (c : Nat) : (⟨(Lib.repeatL [48] c).toArray⟩ : ByteArray).size = c := by
  show (Lib.repeatL [48] c).toArray.size = c
  rw [List.size_toArray, Lib.repeatL_length]; simp

theorem pad_size (d : ByteArray) (sc : Nat) : (pad d sc).size = if d.size ≤ sc then sc + 1 else d.size := by
  unfold pad
  split
  · rw [ByteArray.size_append, zeros_size]; omega
  · rfl

theorem head_size (d : ByteArray) (sc : Nat) : (head d sc).size = (pad d sc).size - sc := by
  unfold head; rw [ByteArray.size_extract]; omega
theorem rest_size (d : ByteArray) (sc : Nat) : (rest d sc).size = sc := by
  have := pad_size d sc
  unfold rest; rw [ByteArray.size_extract]; split at this <;> omega

theorem dot_size : (⟨#[46]⟩ : ByteArray).size = 1 := rfl

/-- The unsigned text's length. -/
theorem text_size (d : ByteArray) (sc : Nat) : ((⟨#[]⟩ : ByteArray) ++ head d sc ++ ⟨#[46]⟩ ++ rest d sc).size = (if d.size ≤ sc then sc + 1 else d.size) + 1 := by
  have h0 : (⟨#[]⟩ : ByteArray).size = 0 := rfl
  have hp := pad_size d sc
  rw [ByteArray.size_append, ByteArray.size_append, ByteArray.size_append, h0, dot_size, head_size, rest_size, hp]
  split <;> omega

/-- The sign only stands ahead. -/
theorem text_sign (s x y : ByteArray) : s ++ x ++ ⟨#[46]⟩ ++ y = s ++ ((⟨#[]⟩ : ByteArray) ++ x ++ ⟨#[46]⟩ ++ y) := by
  apply ByteArray.ext
  simp

/-- 'point' with decimals. -/
theorem point_any (s d : ByteArray) (sc : Nat) (w : World) (hs : s.size + d.size ≤ 1048576) (h : 0 < sc) (hsc : sc ≤ 65536) :
    Calls Try.prog 31 #[.string s, .string d, .int .i64 sc] w fun e w' => e = .returned (.string (s ++ head d sc ++ ⟨#[46]⟩ ++ rest d sc)) ∧ Below w.heap.size w w' := by
  have hp := pad_size d sc
  have hh := head_size d sc
  by_cases hl : d.size ≤ sc
  · rw [if_pos hl] at hp
    have e : pad d sc = ⟨(Lib.repeatL [48] (sc + 1 - d.size)).toArray⟩ ++ d := if_pos hl
    have C := Laid.strings_Repeat ⟨#[48]⟩ (sc + 1 - d.size) w (by omega) (by show 1 * _ ≤ _; omega)
    rw [show ((sc + 1 - d.size : Nat) : Int) = (sc : Int) + 1 - (d.size : Int) by omega] at C
    refine point_short s d _ (pad d sc) (head d sc) (rest d sc) (sc + 1 - d.size) sc w hs h hsc (by omega) (by omega) (zeros_size _) e.symm (by omega) (by omega) (rest_size d sc) ?_ ?_ C
    · unfold head; rw [hp]; congr 1; omega
    · unfold rest; rw [hp]; congr 1 <;> omega
  · rw [if_neg hl] at hp
    have e : pad d sc = d := if_neg hl
    refine point_long s d (head d sc) (rest d sc) (d.size - sc) sc w hs h (by omega) (by omega) (by omega) (rest_size d sc) ?_ ?_
    · unfold head; rw [e]
    · unfold rest; rw [e]; congr 1; omega

set_option maxHeartbeats 400000 in
/-- 'ZZpoint'. -/
theorem zzpoint {s d r : ByteArray} {sc : Int} {w : World} (C : Hid (Calls Try.prog 31 #[.string s, .string d, .int .i64 sc] w fun e w' => e = .returned (.string r) ∧ Below w.heap.size w w')) :
    Calls Try.prog 21 #[.string s, .string d, .int .i64 sc] w fun e w' => e = .returned (.string r) ∧ Below w.heap.size w w' := by
  go_enter Try.func21, Try.ntmps21
  go_wp2_with fail
  refine C.out.mono ?_
  rintro e w' ⟨rfl, hb⟩
  go_wp2_with fail
  go_ret
  exact ⟨rfl, hb⟩

end Go.Proofs.Qxb6001116a.Point
