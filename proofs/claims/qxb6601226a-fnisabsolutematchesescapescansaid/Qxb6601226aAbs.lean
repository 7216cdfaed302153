/-
  SEAT b6601226a: THE WALKS OF 'strings.HasSuffix(s, ".")', 'isAbsolute', 'ZZisAbsolute': each only computes.
-/
import Derived.Test.Qxb6601226aRows
import Derived.Test.Qxb6601226aPlain
import Derived.WalkKit
import Derived.ProofKit
import Derived.OpenShut
import Derived.ShutString
namespace Go.Proofs.Qxb6601226a.Abs
open Go.ChangeShapes Go.WideShapes Go.ChangeAt Go.RowKit
open Plain

theorem hide {p : Prop} (h : p) : Hid p := h
theorem ret_bool {a b : Bool} (h : a = b) : Ending.returned (.bool a) = .returned (.bool b) := by rw [h]

theorem last_of (s : ByteArray) (h1 : 1 ≤ s.size) : ((s.extract (s.size - 1) s.size).toList == [46]) = (s.data.toList.getD (s.size - 1) 0 == 46) := by
  have e : (s.extract (s.size - 1) s.size).toList = [s.data.toList.getD (s.size - 1) 0] := by
    rw [ByteArray.toList_eq, ByteArray.data_extract]
    have hl : s.data.toList.length = s.size := by simp
    rw [Array.toList_extract, List.extract_eq_take_drop]
    have h : s.size - (s.size - 1) = 1 := by omega
    rw [h, List.drop_eq_getElem_cons (show s.size - 1 < s.data.toList.length by omega)]
    simp [List.getD_eq_getElem?_getD, List.getElem?_eq_getElem (show s.size - 1 < s.data.toList.length by omega)]
  rw [e]
  simp

theorem byte_bs (s : ByteArray) (m : Nat) (h : m < s.size) : ((s[m].toNat : Int) == 92) = bs s.data.toList m := by
  have e : s.data.toList.getD m 0 = s[m] := by
    rw [List.getD_eq_getElem?_getD, List.getElem?_eq_getElem (by simpa using h)]; rfl
  unfold bs
  rw [e, Bool.eq_iff_iff]
  simp only [beq_iff_eq]
  constructor
  · intro h; exact UInt8.toNat_inj.1 (by simpa using Int.ofNat.inj h)
  · intro h; rw [h]; rfl

theorem par {a : Int} {r : Nat} (h : a = r) : (a % 2 == 0) = (r % 2 == 0) := by
  rw [Bool.eq_iff_iff]; simp; omega

set_option maxHeartbeats 400000 in
theorem suffix_any (s : ByteArray) (w : World) (hs : s.size ≤ maxLen) (h1 : 1 ≤ s.size) :
    Calls Try.prog 21 #[.string s, .string ⟨#[46]⟩] w fun e w' => e = .returned (.bool (s.data.toList.getD (s.size - 1) 0 == 46)) ∧ w' = w := by
  unfold maxLen at hs
  go_enter Try.func21, Try.ntmps21
  go_wp2
  go_ret
  exact ⟨ret_bool (last_of s h1), rfl⟩

set_option maxHeartbeats 400000 in
theorem suffix_none (s : ByteArray) (w : World) (h1 : s.size < 1) :
    Calls Try.prog 21 #[.string s, .string ⟨#[46]⟩] w fun e w' => e = .returned (.bool false) ∧ w' = w := by
  go_enter Try.func21, Try.ntmps21
  go_wp2
  go_ret
  exact ⟨rfl, rfl⟩

set_option maxHeartbeats 400000 in
theorem abs_none (s : ByteArray) (w : World) (h1 : s.size < 1) :
    Calls Try.prog 19 #[.string s] w fun e w' => e = .returned (.bool false) ∧ w' = w := by
  go_enter Try.func19, Try.ntmps19
  go_wp2_with (go_at_call 21; refine (suffix_none _ _ h1).mono ?_; rintro e w' ⟨rfl, rfl⟩)
  go_ret
  exact ⟨rfl, rfl⟩

set_option maxHeartbeats 400000 in
theorem abs_nodot (s : ByteArray) (w : World) (hs : s.size ≤ maxLen) (h1 : 1 ≤ s.size) (hd : (s.data.toList.getD (s.size - 1) 0 == 46) = false) :
    Calls Try.prog 19 #[.string s] w fun e w' => e = .returned (.bool false) ∧ w' = w := by
  have H := suffix_any s w hs h1
  rw [hd] at H
  clear hd
  go_enter Try.func19, Try.ntmps19
  go_wp2_with (go_at_call 21; refine H.mono ?_; rintro e w' ⟨rfl, rfl⟩)
  go_ret
  exact ⟨rfl, rfl⟩

set_option maxHeartbeats 800000 in
theorem abs_dot (s : ByteArray) (w : World) (hs : s.size ≤ maxLen) (h1 : 1 ≤ s.size) (hd : (s.data.toList.getD (s.size - 1) 0 == 46) = true) :
    Calls Try.prog 19 #[.string s] w fun e w' => e = .returned (.bool (run (bs s.data.toList) 0 (s.size - 1) % 2 == 0)) ∧ w' = w := by
  have H := suffix_any s w hs h1
  rw [hd] at H
  clear hd
  unfold maxLen at hs
  go_enter Try.func19, Try.ntmps19
  go_wp2_with (go_at_call 21; refine H.mono ?_; rintro e w' ⟨rfl, rfl⟩)
  go_loop [3, 4] (fun t i => ∃ m : Nat, m + 1 ≤ s.size ∧ i = .int .i64 ((m : Int) - 1) ∧ t = .int .i64 ((s.size : Int) - 1 - m) ∧ Hid (run (bs s.data.toList) 0 (s.size - 1) = s.size - 1 - m + run (bs s.data.toList) 0 m)) (fun _ i => (intOf i + 1).toNat)
  case atStart => exact ⟨s.size - 1, by omega, by go_num, by go_num, hide (by omega)⟩
  case round =>
    obtain ⟨m, hm, rfl, rfl, HR⟩ := hrel
    cases m with
    | zero =>
      go_wp2
      go_ret
      refine ⟨ret_bool (par ?_), rfl⟩
      rw [HR.out]; simp only [run]; omega
    | succ m =>
      go_wp2
      · go_round
        case rel =>
          have hb : ((s[m].toNat : Int) == 92) = true := by assumption
          have hr := HR.out
          rw [byte_bs s m (by omega)] at hb
          rw [run_yes (Nat.zero_le _) hb] at hr
          exact ⟨m, by omega, by go_num, by go_num, hide (by omega)⟩
        case measure => simp [intOf]
      · have hb : ((s[m].toNat : Int) == 92) = false := by assumption
        have hr := HR.out
        rw [byte_bs s m (by omega)] at hb
        rw [run_no hb] at hr
        go_ret
        exact ⟨ret_bool (par (by rw [hr]; omega)), rfl⟩

/-- 'isAbsolute': the plain function. -/
theorem abs_any (s : ByteArray) (w : World) (hs : s.size ≤ maxLen) :
    Calls Try.prog 19 #[.string s] w fun e w' => e = .returned (.bool (absB s.data.toList)) ∧ w' = w := by
  by_cases h1 : 1 ≤ s.size
  · have hl : s.data.toList.length = s.size := by simp
    cases hd : (s.data.toList.getD (s.size - 1) 0 == 46) with
    | false =>
      have e : absB s.data.toList = false := by unfold absB; rw [hl, hd]; simp
      rw [e]; exact abs_nodot s w hs h1 hd
    | true =>
      have e : absB s.data.toList = (run (bs s.data.toList) 0 (s.size - 1) % 2 == 0) := by
        unfold absB; rw [hl, hd]
        have h0 : decide (0 < s.size) = true := by rw [decide_eq_true_iff]; omega
        rw [h0]; simp
      rw [e]; exact abs_dot s w hs h1 hd
  · have e : absB s.data.toList = false := by
      have hl : s.data.toList.length = s.size := by simp
      unfold absB; rw [hl]
      have h0 : decide (0 < s.size) = false := by rw [decide_eq_false_iff_not]; omega
      rw [h0]; simp
    rw [e]; exact abs_none s w (by omega)

set_option maxHeartbeats 400000 in
/-- 'ZZisAbsolute'. -/
theorem zzabs_any (s : ByteArray) (w : World) (hs : s.size ≤ maxLen) :
    Calls Try.prog 14 #[.string s] w fun e w' => e = .returned (.bool (absB s.data.toList)) ∧ w' = w := by
  go_enter Try.func14, Try.ntmps14
  go_wp2_with (go_at_call 19; refine (abs_any _ _ hs).mono ?_; rintro e w' ⟨rfl, rfl⟩)
  go_ret
  exact ⟨rfl, rfl⟩

end Go.Proofs.Qxb6601226a.Abs
