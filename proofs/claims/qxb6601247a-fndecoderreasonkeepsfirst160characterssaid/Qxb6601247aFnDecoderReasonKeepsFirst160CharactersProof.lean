/-
  SEAT b6601247a: THE PROOF OF 'Rows.FnDecoderReasonKeepsFirst160CharactersSaid'. The frame (how the arguments are opened and shut) is the guide's shell for this function; the walk is ours.
-/
import Derived.Test.Qxb6601247aRows
import Derived.WalkKit
import Derived.ProofKit
import Derived.OpenShut
import Derived.ShutString
import Derived.Test.Qxb6601247aReason
namespace Go.Proofs.Qxb6601247a.fnDecoderReasonKeepsFirst160Characters
open Go.ChangeShapes Go.WideShapes Go.ChangeAt Go.RowKit
open Go.ChangeMaps (open_string shut_string)
set_option linter.unusedVariables false      -- a walk need not use every 'w<i>' (that an integer argument fits its kind)

theorem own : ownKnob Try.prog.godebug = none := by kernel_rfl

set_option maxHeartbeats 400000 in
theorem bytes_any (a0 : ByteArray) (w : World) (h : a0.size ≤ 1048576) :
    Calls Try.prog 7 #[.string a0] w fun e w' => e = .returned (.bool true) ∧ w' = w := by
  go_enter Try.func7, Try.ntmps7
  go_wp2
  go_ret
  exact ⟨rfl, rfl⟩

set_option maxHeartbeats 400000 in
/-- A message of at most 160 characters. -/
theorem walk_short (s : ByteArray) (n : Nat) (w : World) (hs : s.size ≤ 1048576) (h160 : n ≤ 160)
    (C1 : Hid (∀ w, Calls Try.prog 8 #[.string s] w fun e w' => e = .returned (.string s) ∧ Grown w w'))
    (C2 : Hid (∀ w, Calls Try.prog 9 #[.string s] w fun e w' => e = .returned (.int .i64 n) ∧ Grown w w')) :
    Calls Try.prog 3 #[.string s] w fun e w' => e = .returned (.bool true) ∧ Grown w w' := by
  have d1 : decide ((1048576 : Int) < (s.size : Int)) = false := decide_eq_false (by omega)
  go_enter Try.func3, Try.ntmps3
  go_wp2_with fail
  refine (bytes_any s w hs).mono ?_
  rintro e w' ⟨rfl, rfl⟩
  go_wp2_with fail
  refine (C1.out _).mono ?_
  rintro e w1 ⟨rfl, hg1⟩
  go_wp2_with fail
  refine (C2.out _).mono ?_
  rintro e w2 ⟨rfl, hg2⟩
  go_wp2_with fail
  go_ret
  exact ⟨Reason.ret_bool (by simp), Reason.grown_trans hg1 hg2⟩

set_option maxHeartbeats 800000 in
/-- A longer one: 'h': its first 160 characters, 'P' bytes; 't': the rest; 'g': what came back. -/
theorem walk_long (s h t g : ByteArray) (P n : Nat) (w : World) (hs : s.size ≤ 1048576) (hn : n ≤ s.size) (h160 : 160 < n) (hP : P < s.size) (hg : g.size = P + 3) (hh : h.size = P)
    (e1 : g.extract P (P + 3) = ⟨#[226, 128, 166]⟩) (e2 : g.extract 0 P = h) (e3 : s.extract 0 P = h) (e4 : s.extract P s.size = t)
    (C1 : Hid (∀ w, Calls Try.prog 8 #[.string s] w fun e w' => e = .returned (.string g) ∧ Grown w w'))
    (C2 : Hid (∀ w, Calls Try.prog 9 #[.string s] w fun e w' => e = .returned (.int .i64 n) ∧ Grown w w'))
    (C3 : Hid (∀ w, Calls Try.prog 9 #[.string h] w fun e w' => e = .returned (.int .i64 160) ∧ Grown w w'))
    (C4 : Hid (∀ w, Calls Try.prog 9 #[.string t] w fun e w' => e = .returned (.int .i64 ((n : Int) - 160)) ∧ Grown w w')) :
    Calls Try.prog 3 #[.string s] w fun e w' => e = .returned (.bool true) ∧ Grown w w' := by
  have d1 : decide ((1048576 : Int) < (s.size : Int)) = false := decide_eq_false (by omega)
  go_enter Try.func3, Try.ntmps3
  go_wp2_with fail
  refine (bytes_any s w hs).mono ?_
  rintro e w' ⟨rfl, rfl⟩
  go_wp2_with fail
  refine (C1.out _).mono ?_
  rintro e w1 ⟨rfl, hg1⟩
  go_wp2_with fail
  refine (C2.out _).mono ?_
  rintro e w2 ⟨rfl, hg2⟩
  have H2 := Reason.hide (Reason.grown_trans hg1 hg2)
  clear hg1 hg2
  go_wp2_with fail
  refine (C3.out _).mono ?_
  rintro e w3 ⟨rfl, hg3⟩
  have H3 := Reason.hide (Reason.grown_trans H2.out hg3)
  clear hg3 H2
  go_wp2_with fail
  refine (C4.out _).mono ?_
  rintro e w4 ⟨rfl, hg4⟩
  go_wp2_with fail
  go_ret
  exact ⟨Reason.ret_bool (by simp), Reason.grown_trans H3.out hg4⟩

/-- THE WALK: the Go text returns true. -/
theorem walk (a0 : ByteArray) (w0 : a0.size ≤ maxLen) (w : World) :
    Calls Try.prog 3 #[.string a0] w fun e w' => e = .returned (.bool true) ∧ Grown w w' := by
  by_cases h1 : 1048576 < a0.size
  · go_enter Try.func3, Try.ntmps3
    go_wp2
    go_ret
    exact ⟨rfl, by repeat (first | exact Grown.refl _ | apply Grown.drew | apply Grown.alloc)⟩
  · have hs : a0.size ≤ 1048576 := by omega
    obtain ⟨n, hn⟩ := Chars.count_exists a0
    have C1 := fun w => Reason.zzreason_any a0 n w hs hn
    have C2 := fun w => Reason.chars_any a0 n w hs hn
    by_cases h160 : n ≤ 160
    · have e : Reason.cut a0 n = a0 := if_pos h160
      rw [e] at C1
      exact walk_short a0 n w hs h160 C1 C2
    · have e : Reason.cut a0 n = a0.extract 0 (Chars.bpos a0 160) ++ Reason.ell := if_neg h160
      rw [e] at C1
      have hP : Chars.bpos a0 160 < a0.size := hn.2 160 (by omega)
      have hz : (a0.extract 0 (Chars.bpos a0 160)).size = Chars.bpos a0 160 := by rw [ByteArray.size_extract]; omega
      have hz2 : (a0.extract (Chars.bpos a0 160) a0.size).size ≤ a0.size := by rw [ByteArray.size_extract]; omega
      have C3 := fun w => Reason.chars_any (a0.extract 0 (Chars.bpos a0 160)) 160 w (by omega) (Chars.count_take hn (by omega))
      have C4 := fun w => Reason.chars_any (a0.extract (Chars.bpos a0 160) a0.size) (n - 160) w (by omega) (Chars.count_drop hn (by omega))
      rw [show ((n - 160 : Nat) : Int) = (n : Int) - 160 by omega] at C4
      have hell : Reason.ell.size = 3 := rfl
      refine walk_long a0 _ _ _ (Chars.bpos a0 160) n w hs hn.le (by omega) hP ?_ hz ?_ ?_ rfl rfl C1 C2 C3 C4
      · rw [ByteArray.size_append, hz, hell]
      · exact ByteArray.extract_append_eq_right hz.symm (by rw [hz, hell])
      · exact ByteArray.extract_append_eq_left hz.symm

/-! ### THE ROW's STEP: AS THE SHELL HAS IT -/
set_option maxRecDepth 100000 in
theorem lifted (os : Os) (started : os.Started) (H : Type) (enc : TypeId × Value → H) :
    ReturnsInHanded {} Try.checked os 3 .any (Rows.fnDecoderReasonKeepsFirst160CharactersSpec.pre6 enc Try.prog Try.f3 Rows.fnDecoderReasonKeepsFirst160CharactersRow.domain false) (Rows.fnDecoderReasonKeepsFirst160CharactersSpec.post enc Try.prog Try.f3 false true false false) := by
  refine returnsInHanded_of_change (C := Try.checked) own started (by kernel_rfl) Try.func3
    (ChangeSpec.witness6 (enc := enc) (C := Try.checked) false ⟨#[], #[.string ByteArray.empty], []⟩ 8 (by kernel_rfl) (by kernel_rfl) (by kernel_rfl) (by kernel_rfl)) ?_
  intro W base args ds gs before hval0 hW hcnd _
  have hval : ∀ (j : Nat) t v, Try.f3.params[j]? = some t → args[j]? = some v → Value.okWide Try.prog W .any base t v := hval0
  have hW' := hW
  obtain ⟨p, q, hA0, hV, rfl, hfz, hnd⟩ := hW
  have hA : DataW.TrodAll enc Try.prog W 0 (fun _ => true) true Try.f3.params.toList args.toList ds p := hA0
  rw [Try.params3] at hA hval
  obtain ⟨v0, vs0, d0, ds0, p0, q0, hargs, rfl, rfl, h0, r0⟩ := trodAll_cons hA
  obtain ⟨rfl, rfl, rfl⟩ := trodAll_nil r0
  obtain rfl : args = #[v0] := by cases args; simp_all
  obtain ⟨rfl, rfl⟩ := trodVars_none hV
  obtain ⟨a0, rfl, rfl, rfl, w0⟩ := open_string Try.underlying9 (hval 0 9 v0 rfl rfl) h0
  clear hA0 hval0
  simp only [List.append_nil] at hW'
  refine (walk a0 w0 W).mono fun e W' ⟨he, hg⟩ => ?_
  subst he
  exact ⟨_, rfl, post_of_same (pa := []) (pv := []) hW' (fun _ _ _ => (trodAll_cons_mk (shut_bool Try.underlying4 _) trodAll_mk0)) (fun sp _ => (trodAll_cons_mk (shut_string Try.underlying9 w0) trodAll_mk0)) (fun _ _ => rfl) rfl
    (hg.frame _) hg.2.1 (ok_one (by kernel_rfl) rfl (okWide_bool_mk Try.underlying4 _))⟩

theorem over : Rows.fnDecoderReasonKeepsFirst160CharactersRow.holds Try.pinned (OpenSpec.ofChange Rows.fnDecoderReasonKeepsFirst160CharactersSpec) :=
  OpenClaim.holds_of_wide 3 Try.f3 rfl rfl rfl rfl rfl rfl rfl ⟨rfl, rfl, rfl, rfl, rfl⟩ rfl rfl rfl rfl rfl (by kernel_rfl) Try.func3 (by kernel_rfl)
    (of_decide_eq_true (by kernel_rfl)) (by unfold Func.isWrapper; first | (rw [if_pos (by decide +kernel)]; kernel_rfl) | (rw [if_neg (by decide +kernel)]; exact ⟨rfl, rfl⟩))
    (fun os started H enc _ => lifted os started H enc)

/-- ████ THE STATEMENT ████ -/
theorem proved : Rows.FnDecoderReasonKeepsFirst160CharactersSaid :=
  over
end Go.Proofs.Qxb6601247a.fnDecoderReasonKeepsFirst160Characters
