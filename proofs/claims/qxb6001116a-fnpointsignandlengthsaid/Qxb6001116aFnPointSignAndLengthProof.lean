/-
  SEAT b6001116a: THE PROOF OF 'Rows.FnPointSignAndLengthSaid'. The frame (how the arguments are opened and shut) is the guide's shell for this function, its last step turned from 'Grown' to 'Below' (strings.Repeat leaves a frozen new block); the walk is ours.
-/
import Derived.Test.Qxb6001116aRows
import Derived.WalkKit
import Derived.ProofKit
import Derived.OpenShut
import Derived.ShutString
import Derived.Test.Qxb6001116aPoint
import Derived.Below
import Derived.ChangeOld
namespace Go.Proofs.Qxb6001116a.fnPointSignAndLength
open Go.ChangeShapes Go.WideShapes Go.ChangeAt Go.RowKit
open Go.ChangeMaps (open_string shut_string)
set_option linter.unusedVariables false      -- a walk need not use every 'w<i>' (that an integer argument fits its kind)

theorem own : ownKnob Try.prog.godebug = none := by kernel_rfl

set_option maxHeartbeats 400000 in
theorem bytes_any (s d : ByteArray) (sc : Int) (w : World) (h : s.size + d.size ≤ 1048576) :
    Calls Try.prog 24 #[.string s, .string d, .int .i64 sc] w fun e w' => e = .returned (.bool true) ∧ w' = w := by
  go_enter Try.func24, Try.ntmps24
  go_wp2
  go_ret
  exact ⟨rfl, rfl⟩

set_option maxHeartbeats 400000 in
theorem bytes_no (s d : ByteArray) (sc : Int) (w : World) (hm0 : s.size ≤ maxLen) (hm1 : d.size ≤ maxLen) (h : 1048576 < s.size + d.size) :
    Calls Try.prog 24 #[.string s, .string d, .int .i64 sc] w fun e w' => e = .returned (.bool false) ∧ w' = w := by
  unfold maxLen at hm0 hm1
  by_cases h1 : 1048576 < s.size
  · clear h
    go_enter Try.func24, Try.ntmps24
    go_wp2
    go_ret
    exact ⟨rfl, rfl⟩
  · by_cases h2 : 1048576 < d.size
    · clear h
      go_enter Try.func24, Try.ntmps24
      go_wp2
      go_ret
      exact ⟨rfl, rfl⟩
    · go_enter Try.func24, Try.ntmps24
      go_wp2
      go_ret
      exact ⟨rfl, rfl⟩

set_option maxHeartbeats 400000 in
/-- The input is large. -/
theorem walk_big (s d : ByteArray) (sc : Int) (w : World) (hm0 : s.size ≤ maxLen) (hm1 : d.size ≤ maxLen) (h : 1048576 < s.size + d.size ∨ 65536 < sc) :
    Calls Try.prog 8 #[.string s, .string d, .int .i64 sc] w fun e w' => e = .returned (.bool true) ∧ w' = w := by
  by_cases h1 : 1048576 < s.size + d.size
  · clear h
    go_enter Try.func8, Try.ntmps8
    go_wp2_with (go_at_call 24; refine (bytes_no _ _ _ _ hm0 hm1 h1).mono ?_; rintro e w' ⟨rfl, rfl⟩)
    go_ret
    exact ⟨rfl, rfl⟩
  · have h2 : 65536 < sc := by omega
    have h3 : s.size + d.size ≤ 1048576 := by omega
    have d1 : decide ((1048576 : Int) < (s.size : Int) + (d.size : Int)) = false := decide_eq_false (by omega)
    clear h h1
    go_enter Try.func8, Try.ntmps8
    go_wp2_with (go_at_call 24; refine (bytes_any _ _ _ _ h3).mono ?_; rintro e w' ⟨rfl, rfl⟩)
    go_ret
    exact ⟨rfl, rfl⟩

set_option maxHeartbeats 800000 in
/-- No decimals. -/
theorem walk_none (s d p q : ByteArray) (sc : Int) (w : World) (hs : s.size + d.size ≤ 1048576) (h : sc ≤ 0) (hq : q.size = d.size) (ep : s ++ q = p)
    (C1 : Hid (∀ w, Calls Try.prog 21 #[.string s, .string d, .int .i64 sc] w fun e w' => e = .returned (.string p) ∧ Below w.heap.size w w'))
    (C2 : Hid (∀ w, Calls Try.prog 21 #[.string ⟨#[]⟩, .string d, .int .i64 sc] w fun e w' => e = .returned (.string q) ∧ Below w.heap.size w w')) :
    Calls Try.prog 8 #[.string s, .string d, .int .i64 sc] w fun e w' => e = .returned (.bool true) ∧ Below w.heap.size w w' := by
  have d1 : decide ((1048576 : Int) < (s.size : Int) + (d.size : Int)) = false := decide_eq_false (by omega)
  go_enter Try.func8, Try.ntmps8
  go_wp2_with fail
  refine (bytes_any _ _ _ _ hs).mono ?_
  rintro e w' ⟨rfl, rfl⟩
  go_wp2_with fail
  refine (C1.out _).mono ?_
  rintro e w1 ⟨rfl, hb1⟩
  go_wp2_with fail
  refine (C2.out _).mono ?_
  rintro e w2 ⟨rfl, hb2⟩
  have HB := Point.hide (hb1.trans (hb2.mono hb1.size))
  clear hb1 hb2
  go_wp2_with fail
  go_ret
  exact ⟨Point.ret_bool (by simp), HB.out⟩

set_option maxHeartbeats 800000 in
/-- Decimals. -/
theorem walk_some (s d p q : ByteArray) (sc n : Nat) (w : World) (hs : s.size + d.size ≤ 1048576) (h : 0 < sc) (hsc : sc ≤ 65536) (hn : n = if d.size ≤ sc then sc + 1 else d.size) (hq : q.size = n + 1) (ep : s ++ q = p)
    (C1 : Hid (∀ w, Calls Try.prog 21 #[.string s, .string d, .int .i64 sc] w fun e w' => e = .returned (.string p) ∧ Below w.heap.size w w'))
    (C2 : Hid (∀ w, Calls Try.prog 21 #[.string ⟨#[]⟩, .string d, .int .i64 sc] w fun e w' => e = .returned (.string q) ∧ Below w.heap.size w w')) :
    Calls Try.prog 8 #[.string s, .string d, .int .i64 sc] w fun e w' => e = .returned (.bool true) ∧ Below w.heap.size w w' := by
  have d1 : decide ((1048576 : Int) < (s.size : Int) + (d.size : Int)) = false := decide_eq_false (by omega)
  by_cases hl : d.size ≤ sc
  · rw [if_pos hl] at hn
    subst hn
    go_enter Try.func8, Try.ntmps8
    go_wp2_with fail
    refine (bytes_any _ _ _ _ hs).mono ?_
    rintro e w' ⟨rfl, rfl⟩
    go_wp2_with fail
    refine (C1.out _).mono ?_
    rintro e w1 ⟨rfl, hb1⟩
    go_wp2_with fail
    refine (C2.out _).mono ?_
    rintro e w2 ⟨rfl, hb2⟩
    have HB := Point.hide (hb1.trans (hb2.mono hb1.size))
    clear hb1 hb2
    go_wp2_with fail
    go_ret
    exact ⟨Point.ret_bool (by simp), HB.out⟩
  · rw [if_neg hl] at hn
    subst hn
    go_enter Try.func8, Try.ntmps8
    go_wp2_with fail
    refine (bytes_any _ _ _ _ hs).mono ?_
    rintro e w' ⟨rfl, rfl⟩
    go_wp2_with fail
    refine (C1.out _).mono ?_
    rintro e w1 ⟨rfl, hb1⟩
    go_wp2_with fail
    refine (C2.out _).mono ?_
    rintro e w2 ⟨rfl, hb2⟩
    have HB := Point.hide (hb1.trans (hb2.mono hb1.size))
    clear hb1 hb2
    go_wp2_with fail
    go_ret
    exact ⟨Point.ret_bool (by simp), HB.out⟩

theorem empty_size : (⟨#[]⟩ : ByteArray).size = 0 := rfl

/-- THE WALK: the Go text returns true, and writes nothing that was there. -/
theorem walk (a0 a1 : ByteArray) (a2 : Int) (w0 : a0.size ≤ maxLen) (w1 : a1.size ≤ maxLen) (w : World) :
    Calls Try.prog 8 #[.string a0, .string a1, .int .i64 a2] w fun e w' => e = .returned (.bool true) ∧ Below w.heap.size w w' := by
  by_cases hb : 1048576 < a0.size + a1.size ∨ 65536 < a2
  · refine (walk_big a0 a1 a2 w w0 w1 hb).mono ?_
    rintro e w' ⟨rfl, rfl⟩
    exact ⟨rfl, Below.refl _ _⟩
  · have hs : a0.size + a1.size ≤ 1048576 := by omega
    by_cases h : a2 ≤ 0
    · have C : ∀ (s : ByteArray), s.size + a1.size ≤ 1048576 → ∀ w, Calls Try.prog 21 #[.string s, .string a1, .int .i64 a2] w fun e w' => e = .returned (.string (s ++ a1)) ∧ Below w.heap.size w w' := fun s hs w => by
        refine Point.zzpoint ((Point.point_none s a1 a2 w hs h).mono ?_)
        rintro e w' ⟨rfl, rfl⟩
        exact ⟨rfl, Below.refl _ _⟩
      refine walk_none a0 a1 _ _ a2 w hs h ?_ ?_ (C a0 hs) (C ⟨#[]⟩ (by rw [empty_size]; omega))
      · rw [ByteArray.size_append, empty_size]; omega
      · apply ByteArray.ext; simp
    · obtain ⟨sc, rfl⟩ := Int.eq_ofNat_of_zero_le (show 0 ≤ a2 by omega)
      have C : ∀ (s : ByteArray), s.size + a1.size ≤ 1048576 → ∀ w, Calls Try.prog 21 #[.string s, .string a1, .int .i64 sc] w fun e w' => e = .returned (.string (s ++ Point.head a1 sc ++ ⟨#[46]⟩ ++ Point.rest a1 sc)) ∧ Below w.heap.size w w' := fun s hs w =>
        Point.zzpoint (Point.point_any s a1 sc w hs (by omega) (by omega))
      exact walk_some a0 a1 _ _ sc _ w hs (by omega) (by omega) rfl (Point.text_size a1 sc) (Point.text_sign a0 _ _).symm (C a0 hs) (C ⟨#[]⟩ (by rw [empty_size]; omega))

/-! ### THE ROW's STEP -/
set_option maxRecDepth 100000 in
theorem lifted (os : Os) (started : os.Started) (H : Type) (enc : TypeId × Value → H) :
    ReturnsInHanded {} Try.checked os 8 .any (Rows.fnPointSignAndLengthSpec.pre6 enc Try.prog Try.f8 Rows.fnPointSignAndLengthRow.domain false) (Rows.fnPointSignAndLengthSpec.post enc Try.prog Try.f8 false true false false) := by
  refine returnsInHanded_of_change (C := Try.checked) own started (by kernel_rfl) Try.func8
    (ChangeSpec.witness6 (enc := enc) (C := Try.checked) false ⟨#[], #[.string ByteArray.empty, .string ByteArray.empty, .int .i64 0], []⟩ 8 (by kernel_rfl) (by kernel_rfl) (by kernel_rfl) (by kernel_rfl)) ?_
  intro W base args ds gs before hval0 hW hcnd _
  have hval : ∀ (j : Nat) t v, Try.f8.params[j]? = some t → args[j]? = some v → Value.okWide Try.prog W .any base t v := hval0
  have hW' := hW
  obtain ⟨p, q, hA0, hV, rfl, hfz, hnd⟩ := hW
  have hA : DataW.TrodAll enc Try.prog W 0 (fun _ => true) true Try.f8.params.toList args.toList ds p := hA0
  rw [Try.params8] at hA hval
  obtain ⟨v0, vs0, d0, ds0, p0, q0, hargs, rfl, rfl, h0, r0⟩ := trodAll_cons hA
  obtain ⟨v1, vs1, d1, ds1, p1, q1, rfl, rfl, rfl, h1, r1⟩ := trodAll_cons r0
  obtain ⟨v2, vs2, d2, ds2, p2, q2, rfl, rfl, rfl, h2, r2⟩ := trodAll_cons r1
  obtain ⟨rfl, rfl, rfl⟩ := trodAll_nil r2
  obtain rfl : args = #[v0, v1, v2] := by cases args; simp_all
  obtain ⟨rfl, rfl⟩ := trodVars_none hV
  obtain ⟨a0, rfl, rfl, rfl, w0⟩ := open_string Try.underlying9 (hval 0 9 v0 rfl rfl) h0
  obtain ⟨a1, rfl, rfl, rfl, w1⟩ := open_string Try.underlying9 (hval 1 9 v1 rfl rfl) h1
  obtain ⟨a2, rfl, rfl, rfl, w2⟩ := open_int Try.underlying3 (hval 2 3 v2 rfl rfl) h2
  clear hA0 hval0
  refine (walk a0 a1 a2 w0 w1 W).mono fun e W' ⟨he, bel⟩ => ?_
  subst he
  exact ⟨_, rfl, _, _, _, [], _, [], hW', trodAll_mk1 (shut_bool Try.underlying4 _), (trodAll_cons_mk (shut_string Try.underlying9 w0) (trodAll_cons_mk (shut_string Try.underlying9 w1) (trodAll_cons_mk (shut_int Try.underlying3 w2) trodAll_mk0))), rfl, bel.frame _, fun h => by cases h⟩

theorem over : Rows.fnPointSignAndLengthRow.holds Try.pinned (OpenSpec.ofChange Rows.fnPointSignAndLengthSpec) :=
  OpenClaim.holds_of_wide 8 Try.f8 rfl rfl rfl rfl rfl rfl rfl ⟨rfl, rfl, rfl, rfl, rfl⟩ rfl rfl rfl rfl rfl (by kernel_rfl) Try.func8 (by kernel_rfl)
    (of_decide_eq_true (by kernel_rfl)) (by unfold Func.isWrapper; first | (rw [if_pos (by decide +kernel)]; kernel_rfl) | (rw [if_neg (by decide +kernel)]; exact ⟨rfl, rfl⟩))
    (fun os started H enc _ => lifted os started H enc)

/-- ████ THE STATEMENT ████ -/
theorem proved : Rows.FnPointSignAndLengthSaid :=
  over
end Go.Proofs.Qxb6001116a.fnPointSignAndLength
