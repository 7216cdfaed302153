/-
  SEAT b6601226a: THE WALKS OF 'endsField', 'isFieldStop', 'fieldEnd', 'ZZfieldEnd', 'escapedAt', 'modelFieldEnd': each only reads.
-/
import Derived.Test.Qxb6601226aRows
import Derived.Test.Qxb6601226aEnds
import Derived.WalkKit
import Derived.ProofKit
import Derived.OpenShut
namespace Go.Proofs.Qxb6601226a.FieldW
open Go.ChangeShapes Go.WideShapes Go.ChangeAt Go.RowKit
open Plain Ends

theorem hide {p : Prop} (h : p) : Hid p := h
theorem ret_bool {a b : Bool} (h : a = b) : Ending.returned (.bool a) = .returned (.bool b) := by rw [h]
theorem ret_int {k : IntKind} {a b : Int} (h : a = b) : Ending.returned (.int k a) = .returned (.int k b) := by rw [h]

set_option maxHeartbeats 400000 in
theorem ends_any (c : Int) (w : World) :
    Calls Try.prog 20 #[.int .u8 c] w fun e w' => e = .returned (.bool (stopB c)) ∧ w' = w := by
  go_enter Try.func20, Try.ntmps20
  go_wp2
  all_goals go_ret
  all_goals exact ⟨ret_bool (by simp [stopB, *]), rfl⟩

set_option maxHeartbeats 400000 in
theorem stop_any (c : Int) (w : World) :
    Calls Try.prog 12 #[.int .u8 c] w fun e w' => e = .returned (.bool (stopB c)) ∧ w' = w := by
  go_enter Try.func12, Try.ntmps12
  go_wp2
  all_goals go_ret
  all_goals exact ⟨ret_bool (by simp [stopB, *]), rfl⟩

set_option maxHeartbeats 800000 in
theorem field_quoted (b off len cap start : Nat) (f : Nat → Int) (w : World) (hlen : len ≤ 1048576) (hs : start < len)
    (HC : Hid (∀ i, i < len → w.cell? ⟨b, off + i, none⟩ = some (.int .u8 (f i)))) (HQ : Hid (f start = 34)) :
    Calls Try.prog 17 #[.slice (some ⟨b, off, none⟩) len cap, .int .i64 start] w fun e w' => e = .returned (.int .i64 (fe f len start)) ∧ w' = w := by
  have hc0 := HC.out start hs
  rw [HQ.out] at hc0
  go_enter Try.func17, Try.ntmps17
  go_wp2
  go_loop [6] (fun i => ∃ k : Nat, Hid (Scanned true f len (start + 1) k) ∧ i = .int .i64 k) (fun i => len + 1 - (intOf i).toNat)
  case atStart => exact ⟨start + 1, hide (scanned_start _ _ (by omega)), by go_num⟩
  case round =>
    obtain ⟨k, HS, rfl⟩ := hrel
    have hk1 := HS.out.2.1
    have hk0 := HS.out.1
    by_cases hlt : k < len
    · have hck := HC.out k hlt
      by_cases h92 : f k = 92
      · have HS' := hide (scanned_escape HS.out hlt h92)
        rw [h92] at hck
        clear h92
        go_wp2
        go_round
        case rel => exact ⟨k + 2, HS', by go_num⟩
        case measure => simp [intOf]; omega
      · by_cases h34 : f k = 34
        · have HE := hide (scanned_found HS.out hlt (by rw [h34]; rfl))
          rw [h34] at hck
          clear h92 h34
          go_wp2
          go_ret
          refine ⟨ret_int ?_, rfl⟩
          rw [fe_quoted HQ.out, HE.out, if_pos hlt]
        · have HS' := hide (scanned_step HS.out hlt h92 (by simp [ender, h34]))
          have e92 : (f k == 92) = false := by simpa using h92
          have e34 : (f k == 34) = false := by simpa using h34
          clear h92 h34
          go_wp2
          go_round
          case rel => exact ⟨k + 1, HS', by go_num⟩
          case measure => simp [intOf]; omega
    · have HE := hide (scanned_end HS.out (by omega) (by omega))
      go_wp2
      go_ret
      refine ⟨ret_int ?_, rfl⟩
      rw [fe_quoted HQ.out, HE.out, if_neg (by omega)]

set_option maxHeartbeats 800000 in
theorem field_plain (b off len cap start : Nat) (f : Nat → Int) (w : World) (hlen : len ≤ 1048576) (hs : start < len)
    (HC : Hid (∀ i, i < len → w.cell? ⟨b, off + i, none⟩ = some (.int .u8 (f i)))) (HQ : Hid (f start ≠ 34)) :
    Calls Try.prog 17 #[.slice (some ⟨b, off, none⟩) len cap, .int .i64 start] w fun e w' => e = .returned (.int .i64 (fe f len start)) ∧ w' = w := by
  have hc0 := HC.out start hs
  have e34 : (f start == 34) = false := by simpa using HQ.out
  go_enter Try.func17, Try.ntmps17
  go_wp2
  go_loop [6] (fun i => ∃ k : Nat, Hid (Scanned false f len start k) ∧ i = .int .i64 k) (fun i => len + 1 - (intOf i).toNat)
  case atStart => exact ⟨start, hide (scanned_start _ _ (by omega)), by go_num⟩
  case round =>
    obtain ⟨k, HS, rfl⟩ := hrel
    have hk1 := HS.out.2.1
    have hk0 := HS.out.1
    by_cases hlt : k < len
    · have hck := HC.out k hlt
      by_cases h92 : f k = 92
      · have HS' := hide (scanned_escape HS.out hlt h92)
        rw [h92] at hck
        clear h92
        go_wp2
        go_round
        case rel => exact ⟨k + 2, HS', by go_num⟩
        case measure => simp [intOf]; omega
      · have e92 : (f k == 92) = false := by simpa using h92
        have CE := hide (fun w => ends_any (f k) w)
        cases hst : stopB (f k) with
        | true =>
          have HE := hide (scanned_found HS.out hlt (show ender false (f k) = true from hst))
          rw [hst] at CE
          clear h92 hst
          go_wp2_with (go_at_call 20; refine (CE.out _).mono ?_; rintro e w' ⟨rfl, rfl⟩)
          go_ret
          refine ⟨ret_int ?_, rfl⟩
          rw [fe_plain HQ.out, HE.out]
        | false =>
          have HS' := hide (scanned_step HS.out hlt h92 (show ender false (f k) = false from hst))
          rw [hst] at CE
          clear h92 hst
          go_wp2_with (go_at_call 20; refine (CE.out _).mono ?_; rintro e w' ⟨rfl, rfl⟩)
          go_round
          case rel => exact ⟨k + 1, HS', by go_num⟩
          case measure => simp [intOf]; omega
    · have HE := hide (scanned_end HS.out (by omega) (by omega))
      go_wp2
      go_ret
      refine ⟨ret_int ?_, rfl⟩
      rw [fe_plain HQ.out, HE.out]

/-- 'fieldEnd': the plain function. -/
theorem field_any (b off len cap start : Nat) (f : Nat → Int) (w : World) (hlen : len ≤ 1048576) (hs : start < len)
    (HC : Hid (∀ i, i < len → w.cell? ⟨b, off + i, none⟩ = some (.int .u8 (f i)))) :
    Calls Try.prog 17 #[.slice (some ⟨b, off, none⟩) len cap, .int .i64 start] w fun e w' => e = .returned (.int .i64 (fe f len start)) ∧ w' = w := by
  by_cases hq : f start = 34
  · exact field_quoted b off len cap start f w hlen hs HC hq
  · exact field_plain b off len cap start f w hlen hs HC hq

set_option maxHeartbeats 400000 in
/-- 'ZZfieldEnd'. -/
theorem zzfield_any (b off len cap start : Nat) (f : Nat → Int) (w : World) (hlen : len ≤ 1048576) (hs : start < len)
    (HC : Hid (∀ i, i < len → w.cell? ⟨b, off + i, none⟩ = some (.int .u8 (f i)))) :
    Calls Try.prog 9 #[.slice (some ⟨b, off, none⟩) len cap, .int .i64 start] w fun e w' => e = .returned (.int .i64 (fe f len start)) ∧ w' = w := by
  have C := hide (field_any b off len cap start f w hlen hs HC)
  generalize fe f len start = r at C ⊢
  go_enter Try.func9, Try.ntmps9
  go_wp2_with fail
  refine C.out.mono ?_
  rintro e w' ⟨rfl, rfl⟩
  go_wp2_with fail
  go_ret
  exact ⟨rfl, rfl⟩

theorem odd {a : Int} {r : Nat} (h : a = r) : (a % 2 == 1) = (r % 2 == 1) := by
  rw [Bool.eq_iff_iff]; simp; omega

set_option maxHeartbeats 800000 in
/-- 'escapedAt': the run's parity. -/
theorem escaped_any (b off len cap lo j : Nat) (f : Nat → Int) (w : World) (hlen : len ≤ 1048576) (hlo : lo ≤ j) (hj : j ≤ len)
    (HC : Hid (∀ i, i < len → w.cell? ⟨b, off + i, none⟩ = some (.int .u8 (f i)))) :
    Calls Try.prog 18 #[.slice (some ⟨b, off, none⟩) len cap, .int .i64 lo, .int .i64 j] w fun e w' => e = .returned (.bool (run (bz f) lo j % 2 == 1)) ∧ w' = w := by
  go_enter Try.func18, Try.ntmps18
  go_wp2
  go_loop [7, 8] (fun t i => ∃ m : Nat, lo ≤ m ∧ m ≤ j ∧ i = .int .i64 ((m : Int) - 1) ∧ t = .int .i64 ((j : Int) - m) ∧ Hid (run (bz f) lo j = j - m + run (bz f) lo m)) (fun _ i => (intOf i + 1).toNat)
  case atStart => exact ⟨j, hlo, by omega, by go_num, by go_num, hide (by omega)⟩
  case round =>
    obtain ⟨m, hm1, hm2, rfl, rfl, HR⟩ := hrel
    by_cases hlt : lo < m
    · obtain ⟨m, rfl⟩ : ∃ n, m = n + 1 := ⟨m - 1, by omega⟩
      have hcm := HC.out m (by omega)
      cases hb : bz f m with
      | true =>
        have hv : f m = 92 := by simpa [bz] using hb
        rw [hv] at hcm
        have HR' : Hid (run (bz f) lo j = j - m + run (bz f) lo m) := by
          have hr := HR.out; rw [run_yes (by omega) hb] at hr; exact hide (by omega)
        clear hv hb HR
        go_wp2
        go_round
        case rel => exact ⟨m, by omega, by omega, by go_num, by go_num, HR'⟩
        case measure => simp [intOf]
      | false =>
        have hv : (f m == 92) = false := hb
        have HR' : Hid (run (bz f) lo j = j - (m + 1)) := by
          have hr := HR.out; rw [run_no hb] at hr; exact hide (by omega)
        clear hb HR
        go_wp2
        go_ret
        exact ⟨ret_bool (odd (by rw [HR'.out]; omega)), rfl⟩
    · have HR' : Hid (run (bz f) lo j = j - m) := by
        have hr := HR.out; rw [run_low (show m ≤ lo by omega)] at hr; exact hide (by omega)
      clear HR
      go_wp2
      go_ret
      exact ⟨ret_bool (odd (by rw [HR'.out]; omega)), rfl⟩

end Go.Proofs.Qxb6601226a.FieldW
