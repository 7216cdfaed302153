/-
  SEAT b6601226a: THE PROOF OF 'Rows.FnIsAbsoluteEscapeParitySaid'. The frame (how the arguments are opened and shut) is the guide's shell for this function; the walk is ours.
-/
import Derived.Test.Qxb6601226aRows
import Derived.WalkKit
import Derived.ProofKit
import Derived.OpenShut
import Derived.ShutString
import Derived.Test.Qxb6601226aAbs
namespace Go.Proofs.Qxb6601226a.fnIsAbsoluteEscapeParity
open Go.ChangeShapes Go.WideShapes Go.ChangeAt Go.RowKit
open Go.ChangeMaps (open_string shut_string)
set_option linter.unusedVariables false      -- a walk need not use every 'w<i>' (that an integer argument fits its kind)

theorem own : ownKnob Try.prog.godebug = none := by kernel_rfl

set_option maxHeartbeats 400000 in
theorem bytes_any (a0 : ByteArray) (w : World) (h : a0.size ≤ 1048576) :
    Calls Try.prog 16 #[.string a0] w fun e w' => e = .returned (.bool true) ∧ w' = w := by
  go_enter Try.func16, Try.ntmps16
  go_wp2
  go_ret
  exact ⟨rfl, rfl⟩

theorem join_list (a b : ByteArray) : (a ++ b).data.toList = a.data.toList ++ b.data.toList := by
  simp

/-- 'ZZisAbsolute' at 's' with a tail of at most three bytes. -/
theorem call_tail (a0 c : ByteArray) (w : World) (b : Bool) (h : a0.size ≤ 1048576) (hc : c.size ≤ 3) (hb : Plain.absB (a0.data.toList ++ c.data.toList) = b) :
    Calls Try.prog 14 #[.string (a0 ++ c)] w fun e w' => e = .returned (.bool b) ∧ w' = w := by
  have H := Abs.zzabs_any (a0 ++ c) w (by unfold maxLen; simp [ByteArray.size_append]; omega)
  rw [join_list, hb] at H
  exact H

set_option maxHeartbeats 400000 in
theorem walk_small (a0 : ByteArray) (w : World) (h1 : a0.size ≤ 1048576) (p : Bool)
    (c1 : ∀ w, Calls Try.prog 14 #[.string (a0 ++ ⟨#[46]⟩)] w fun e w' => e = .returned (.bool p) ∧ w' = w)
    (c2 : ∀ w, Calls Try.prog 14 #[.string (a0 ++ ⟨#[92, 46]⟩)] w fun e w' => e = .returned (.bool (!p)) ∧ w' = w)
    (c3 : ∀ w, Calls Try.prog 14 #[.string (a0 ++ ⟨#[92, 92, 46]⟩)] w fun e w' => e = .returned (.bool p) ∧ w' = w)
    (c4 : ∀ w, Calls Try.prog 14 #[.string (a0 ++ ⟨#[97, 46]⟩)] w fun e w' => e = .returned (.bool true) ∧ w' = w)
    (c5 : ∀ w, Calls Try.prog 14 #[.string (a0 ++ ⟨#[97]⟩)] w fun e w' => e = .returned (.bool false) ∧ w' = w) :
    Calls Try.prog 6 #[.string a0] w fun e w' => e = .returned (.bool true) ∧ w' = w := by
  have C1 := Abs.hide c1
  have C2 := Abs.hide c2
  have C3 := Abs.hide c3
  have C4 := Abs.hide c4
  have C5 := Abs.hide c5
  clear c1 c2 c3 c4 c5
  cases p
  all_goals
    go_enter Try.func6, Try.ntmps6
    go_wp2_with fail
    refine (bytes_any a0 w (by omega)).mono ?_
    rintro e w' ⟨rfl, rfl⟩
    go_wp2_with fail
    refine (C1.out _).mono ?_
    rintro e w' ⟨rfl, rfl⟩
    go_wp2_with fail
    refine (C2.out _).mono ?_
    rintro e w' ⟨rfl, rfl⟩
    go_wp2_with fail
    refine (C3.out _).mono ?_
    rintro e w' ⟨rfl, rfl⟩
    go_wp2_with fail
    refine (C4.out _).mono ?_
    rintro e w' ⟨rfl, rfl⟩
    go_wp2_with fail
    refine (C5.out _).mono ?_
    rintro e w' ⟨rfl, rfl⟩
    go_wp2_with fail
    go_ret
    exact ⟨rfl, rfl⟩

theorem walk (a0 : ByteArray) (w0 : a0.size ≤ maxLen) (w : World) :
    Calls Try.prog 6 #[.string a0] w fun e w' => e = .returned (.bool true) ∧ Grown w w' := by
  by_cases h1 : 1048576 < a0.size
  · go_enter Try.func6, Try.ntmps6
    go_wp2
    go_ret
    exact ⟨rfl, by repeat (first | exact Grown.refl _ | apply Grown.drew | apply Grown.alloc)⟩
  · have h : a0.size ≤ 1048576 := by omega
    have hp := Plain.parity a0.data.toList
    refine (walk_small a0 w h (Plain.absB (a0.data.toList ++ [46]))
      (fun w => call_tail a0 ⟨#[46]⟩ w _ h (by decide) rfl)
      (fun w => call_tail a0 ⟨#[92, 46]⟩ w _ h (by decide) (by rw [hp.1]; simp))
      (fun w => call_tail a0 ⟨#[92, 92, 46]⟩ w _ h (by decide) hp.2)
      (fun w => call_tail a0 ⟨#[97, 46]⟩ w _ h (by decide) (Plain.abs_letter _))
      (fun w => call_tail a0 ⟨#[97]⟩ w _ h (by decide) (Plain.abs_bare _))).mono ?_
    rintro e w' ⟨rfl, rfl⟩
    exact ⟨rfl, Grown.refl _⟩


/-! ### THE ROW's STEP: AS THE SHELL HAS IT -/
set_option maxRecDepth 100000 in
theorem lifted (os : Os) (started : os.Started) (H : Type) (enc : TypeId × Value → H) :
    ReturnsInHanded {} Try.checked os 6 .any (Rows.fnIsAbsoluteEscapeParitySpec.pre6 enc Try.prog Try.f6 Rows.fnIsAbsoluteEscapeParityRow.domain false) (Rows.fnIsAbsoluteEscapeParitySpec.post enc Try.prog Try.f6 false true false false) := by
  refine returnsInHanded_of_change (C := Try.checked) own started (by kernel_rfl) Try.func6
    (ChangeSpec.witness6 (enc := enc) (C := Try.checked) false ⟨#[], #[.string ByteArray.empty], []⟩ 8 (by kernel_rfl) (by kernel_rfl) (by kernel_rfl) (by kernel_rfl)) ?_
  intro W base args ds gs before hval0 hW hcnd _
  have hval : ∀ (j : Nat) t v, Try.f6.params[j]? = some t → args[j]? = some v → Value.okWide Try.prog W .any base t v := hval0
  have hW' := hW
  obtain ⟨p, q, hA0, hV, rfl, hfz, hnd⟩ := hW
  have hA : DataW.TrodAll enc Try.prog W 0 (fun _ => true) true Try.f6.params.toList args.toList ds p := hA0
  rw [Try.params6] at hA hval
  obtain ⟨v0, vs0, d0, ds0, p0, q0, hargs, rfl, rfl, h0, r0⟩ := trodAll_cons hA
  obtain ⟨rfl, rfl, rfl⟩ := trodAll_nil r0
  obtain rfl : args = #[v0] := by cases args; simp_all
  obtain ⟨rfl, rfl⟩ := trodVars_none hV
  obtain ⟨a0, rfl, rfl, rfl, w0⟩ := open_string Try.underlying9 (hval 0 9 v0 rfl rfl) h0
  clear hA0 hval0
  simp only [List.append_nil] at hW'
  refine (walk a0 w0 W).mono fun e W' ⟨he, hg⟩ => ?_
  subst he
  exact ⟨_, rfl, post_of_same (pa := []) (pv := []) hW' (fun _ _ _ => (trodAll_cons_mk (shut_bool Try.underlying4 _) trodAll_mk0)) (fun sp _ => (trodAll_cons_mk (shut_string Try.underlying9 w0) trodAll_mk0)) (fun _ _ => rfl) rfl
    (hg.frame _) hg.2.1 (ok_one (by kernel_rfl) rfl (okWide_bool_mk Try.underlying4 _))⟩

theorem over : Rows.fnIsAbsoluteEscapeParityRow.holds Try.pinned (OpenSpec.ofChange Rows.fnIsAbsoluteEscapeParitySpec) :=
  OpenClaim.holds_of_wide 6 Try.f6 rfl rfl rfl rfl rfl rfl rfl ⟨rfl, rfl, rfl, rfl, rfl⟩ rfl rfl rfl rfl rfl (by kernel_rfl) Try.func6 (by kernel_rfl)
    (of_decide_eq_true (by kernel_rfl)) (by unfold Func.isWrapper; first | (rw [if_pos (by decide +kernel)]; kernel_rfl) | (rw [if_neg (by decide +kernel)]; exact ⟨rfl, rfl⟩))
    (fun os started H enc _ => lifted os started H enc)

/-- ████ THE STATEMENT ████ -/
theorem proved : Rows.FnIsAbsoluteEscapeParitySaid :=
  over
end Go.Proofs.Qxb6601226a.fnIsAbsoluteEscapeParity
