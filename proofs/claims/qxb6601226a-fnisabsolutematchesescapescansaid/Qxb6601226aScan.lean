/-
  SEAT b6601226a: THE WALK OF 'modelAbsolute': the escape scan from the left.
-/
import Derived.Test.Qxb6601226aAbs
namespace Go.Proofs.Qxb6601226a.Scan
open Go.ChangeShapes Go.WideShapes Go.ChangeAt Go.RowKit
open Plain Abs

theorem byte_at (s : ByteArray) (m : Nat) (h : m < s.size) : s.data.toList.getD m 0 = s[m] := by
  rw [List.getD_eq_getElem?_getD, List.getElem?_eq_getElem (by simpa using h)]; rfl

theorem byte_eq (c d : UInt8) : ((c.toNat : Int) == (d.toNat : Int)) = (c == d) := by
  rw [Bool.eq_iff_iff]
  simp only [beq_iff_eq]
  constructor
  · intro h; exact UInt8.toNat_inj.1 (Int.ofNat.inj h)
  · intro h; rw [h]

theorem val_bool {a b : Bool} (h : a = b) : Value.bool a = .bool b := by rw [h]

set_option maxHeartbeats 800000 in
theorem scan_any (s : ByteArray) (w : World) (hs : s.size ≤ maxLen) :
    Calls Try.prog 15 #[.string s] w fun e w' => e = .returned (.bool (absB s.data.toList)) ∧ w' = w := by
  unfold maxLen at hs
  go_enter Try.func15, Try.ntmps15
  go_wp2
  go_loop [3, 4, 5] (fun e f i => ∃ k : Nat, k ≤ s.size ∧ i = .int .i64 k ∧ e = .bool (esc s.data.toList k) ∧ f = .bool (freeDot s.data.toList k)) (fun _ _ i => s.size - (intOf i).toNat)
  case atStart => exact ⟨0, by omega, rfl, rfl, rfl⟩
  case round =>
    obtain ⟨k, hk, rfl, rfl, rfl⟩ := hrel
    by_cases hlt : k < s.size
    · have hg := byte_at s k hlt
      cases he : esc s.data.toList k with
      | true =>
        have HS := hide (scan_escaped he)
        clear he hg
        go_wp2
        go_round
        case rel => exact ⟨k + 1, by omega, by go_num, val_bool HS.out.1.symm, val_bool HS.out.2.symm⟩
        case measure => simp [intOf]; omega
      | false =>
        by_cases hb : s[k] = 92
        · have HS := hide (scan_back he (by rw [hg]; exact hb))
          have hb' : ((s[k].toNat : Int) == 92) = true := by rw [hb]; rfl
          clear he hg hb
          go_wp2
          go_round
          case rel => exact ⟨k + 1, by omega, by go_num, val_bool HS.out.1.symm, val_bool HS.out.2.symm⟩
          case measure => simp [intOf]; omega
        · have HS := hide (scan_plain he (by rw [hg]; exact hb))
          have hb' : ((s[k].toNat : Int) == 92) = false := by
            have := byte_eq s[k] 92
            rw [show ((s[k].toNat : Int) == 92) = (s[k] == 92) from this]; simpa using hb
          rw [hg] at HS
          have HE := hide (byte_eq s[k] 46)
          clear he hg hb
          go_wp2
          go_round
          case rel => exact ⟨k + 1, by omega, by go_num, val_bool HS.out.1.symm, val_bool (HE.out.trans HS.out.2.symm)⟩
          case measure => simp [intOf]; omega
    · go_wp2
      go_ret
      have hk' : k = s.data.toList.length := by simp; omega
      exact ⟨ret_bool (by rw [hk', freeDot_all]), rfl⟩

end Go.Proofs.Qxb6601226a.Scan
