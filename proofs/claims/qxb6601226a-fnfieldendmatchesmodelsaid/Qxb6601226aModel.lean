/-
  SEAT b6601226a: THE WALK OF 'modelFieldEnd': it only reads.
-/
import Derived.Test.Qxb6601226aField
namespace Go.Proofs.Qxb6601226a.Model
open Go.ChangeShapes Go.WideShapes Go.ChangeAt Go.RowKit
open Plain Ends FieldW

theorem par01 (r : Nat) : (r % 2 == 1) = !(r % 2 == 0) := by
  rw [Bool.eq_iff_iff]; simp

set_option maxHeartbeats 800000 in
theorem model_quoted (b off len cap start : Nat) (f : Nat → Int) (w : World) (hlen : len ≤ 1048576) (hs : start < len)
    (HC : Hid (∀ i, i < len → w.cell? ⟨b, off + i, none⟩ = some (.int .u8 (f i)))) (HQ : Hid (f start = 34)) :
    Calls Try.prog 10 #[.slice (some ⟨b, off, none⟩) len cap, .int .i64 start] w fun e w' => e = .returned (.int .i64 (fe f len start)) ∧ w' = w := by
  have hc0 := HC.out start hs
  rw [HQ.out] at hc0
  go_enter Try.func10, Try.ntmps10
  go_wp2
  go_loop [5] (fun i => ∃ k : Nat, Hid (Sought true f len (start + 1) k) ∧ i = .int .i64 k) (fun i => len + 1 - (intOf i).toNat)
  case atStart => exact ⟨start + 1, hide (sought_start _ _ (by omega)), by go_num⟩
  case round =>
    obtain ⟨k, HS, rfl⟩ := hrel
    have hk1 := HS.out.2.1
    have hk0 := HS.out.1
    by_cases hlt : k < len
    · have hck := HC.out k hlt
      by_cases h34 : f k = 34
      · have CE := hide (escaped_any b off len cap (start + 1) k f w hlen hk0 hk1 HC)
        rw [par01] at CE
        rw [h34] at hck
        have hhit : hit true f (start + 1) k = (run (bz f) (start + 1) k % 2 == 0) := by simp [hit, ender, h34]
        cases hp : (run (bz f) (start + 1) k % 2 == 0) with
        | true =>
          have HE := hide (sought_found HS.out hlt (hhit.trans hp))
          rw [hp] at CE
          have CE' : Hid (Calls Try.prog 18 #[.slice (some ⟨b, off, none⟩) len cap, .int .i64 ((start : Int) + 1), .int .i64 (k : Int)] w fun e w' => e = .returned (.bool false) ∧ w' = w) := CE.out
          clear h34 hhit hp CE
          go_wp2_with (go_at_call 18; refine CE'.out.mono ?_; rintro e w' ⟨rfl, rfl⟩)
          go_ret
          refine ⟨ret_int ?_, rfl⟩
          rw [fe_quoted HQ.out, HE.out, if_pos hlt]
        | false =>
          have HS' := hide (sought_step HS.out hlt (hhit.trans hp))
          rw [hp] at CE
          have CE' : Hid (Calls Try.prog 18 #[.slice (some ⟨b, off, none⟩) len cap, .int .i64 ((start : Int) + 1), .int .i64 (k : Int)] w fun e w' => e = .returned (.bool true) ∧ w' = w) := CE.out
          clear h34 hhit hp CE
          go_wp2_with (go_at_call 18; refine CE'.out.mono ?_; rintro e w' ⟨rfl, rfl⟩)
          go_round
          case rel => exact ⟨k + 1, HS', by go_num⟩
          case measure => simp [intOf]; omega
      · have HS' := hide (sought_step HS.out hlt (by simp [hit, ender, h34]))
        have e34 : (f k == 34) = false := by simpa using h34
        clear h34
        go_wp2
        go_round
        case rel => exact ⟨k + 1, HS', by go_num⟩
        case measure => simp [intOf]; omega
    · have HE := hide (sought_end HS.out (by omega) (by omega))
      go_wp2
      go_ret
      refine ⟨ret_int ?_, rfl⟩
      rw [fe_quoted HQ.out, HE.out, if_neg (by omega)]

set_option maxHeartbeats 800000 in
theorem model_plain (b off len cap start : Nat) (f : Nat → Int) (w : World) (hlen : len ≤ 1048576) (hs : start < len)
    (HC : Hid (∀ i, i < len → w.cell? ⟨b, off + i, none⟩ = some (.int .u8 (f i)))) (HQ : Hid (f start ≠ 34)) :
    Calls Try.prog 10 #[.slice (some ⟨b, off, none⟩) len cap, .int .i64 start] w fun e w' => e = .returned (.int .i64 (fe f len start)) ∧ w' = w := by
  have hc0 := HC.out start hs
  have e34 : (f start == 34) = false := by simpa using HQ.out
  go_enter Try.func10, Try.ntmps10
  go_wp2
  go_loop [6] (fun i => ∃ k : Nat, Hid (Sought false f len start k) ∧ i = .int .i64 k) (fun i => len + 1 - (intOf i).toNat)
  case atStart => exact ⟨start, hide (sought_start _ _ (by omega)), by go_num⟩
  case round =>
    obtain ⟨k, HS, rfl⟩ := hrel
    have hk1 := HS.out.2.1
    have hk0 := HS.out.1
    by_cases hlt : k < len
    · have hck := HC.out k hlt
      have CS := hide (fun w => stop_any (f k) w)
      cases hst : stopB (f k) with
      | true =>
        have CE := hide (escaped_any b off len cap start k f w hlen hk0 hk1 HC)
        rw [par01] at CE
        rw [hst] at CS
        have hhit : hit false f start k = (run (bz f) start k % 2 == 0) := by simp [hit, ender, hst]
        cases hp : (run (bz f) start k % 2 == 0) with
        | true =>
          have HE := hide (sought_found HS.out hlt (hhit.trans hp))
          rw [hp] at CE
          clear hst hhit hp
          go_wp2_with (first | (go_at_call 12; refine (CS.out _).mono ?_; rintro e w' ⟨rfl, rfl⟩) | (go_at_call 18; refine CE.out.mono ?_; rintro e w' ⟨rfl, rfl⟩))
          go_ret
          refine ⟨ret_int ?_, rfl⟩
          rw [fe_plain HQ.out, HE.out]
        | false =>
          have HS' := hide (sought_step HS.out hlt (hhit.trans hp))
          rw [hp] at CE
          clear hst hhit hp
          go_wp2_with (first | (go_at_call 12; refine (CS.out _).mono ?_; rintro e w' ⟨rfl, rfl⟩) | (go_at_call 18; refine CE.out.mono ?_; rintro e w' ⟨rfl, rfl⟩))
          go_round
          case rel => exact ⟨k + 1, HS', by go_num⟩
          case measure => simp [intOf]; omega
      | false =>
        have HS' := hide (sought_step HS.out hlt (by simp [hit, ender, hst]))
        rw [hst] at CS
        clear hst
        go_wp2_with (go_at_call 12; refine (CS.out _).mono ?_; rintro e w' ⟨rfl, rfl⟩)
        go_round
        case rel => exact ⟨k + 1, HS', by go_num⟩
        case measure => simp [intOf]; omega
    · have HE := hide (sought_end HS.out (by omega) (by omega))
      go_wp2
      go_ret
      refine ⟨ret_int ?_, rfl⟩
      rw [fe_plain HQ.out, HE.out]

/-- 'modelFieldEnd': the same plain function. -/
theorem model_any (b off len cap start : Nat) (f : Nat → Int) (w : World) (hlen : len ≤ 1048576) (hs : start < len)
    (HC : Hid (∀ i, i < len → w.cell? ⟨b, off + i, none⟩ = some (.int .u8 (f i)))) :
    Calls Try.prog 10 #[.slice (some ⟨b, off, none⟩) len cap, .int .i64 start] w fun e w' => e = .returned (.int .i64 (fe f len start)) ∧ w' = w := by
  by_cases hq : f start = 34
  · exact model_quoted b off len cap start f w hlen hs HC hq
  · exact model_plain b off len cap start f w hlen hs HC hq

end Go.Proofs.Qxb6601226a.Model
