/-
  SEAT b6601226a: THE PROOF OF 'Rows.FnFieldEndBoundedAndBlindToWhatFollowsSaid'. The frame (how the arguments are opened and shut) is the guide's shell for this function; the walk is ours.
-/
import Derived.Test.Qxb6601226aRows
import Derived.WalkKit
import Derived.ProofKit
import Derived.OpenShut
import Derived.ShutString
import Derived.ChangeOld
import Derived.Below
import Derived.Test.Qxb6601226aBlind
import Derived.Test.Qxb6601226aField
namespace Go.Proofs.Qxb6601226a.fnFieldEndBoundedAndBlindToWhatFollows
open Go.ChangeShapes Go.WideShapes Go.ChangeAt Go.RowKit
open Go.ChangeMaps (open_string shut_string)
set_option linter.unusedVariables false

theorem own : ownKnob Try.prog.godebug = none := by kernel_rfl
theorem laidOut : laidOutB Try.prog = true := by kernel_rfl

/-- WHAT THE WALK IS TOLD OF A SLICE OF INTEGERS THAT CAME IN: it is nil; or it leads to a row of 'cap' cells, the numbers 'zs' (the first 'len' are its elements, the rest its spare room), each fitting its kind. -/
def IsRow (k : IntKind) (w : World) (a : Option Addr) (len cap : Nat) (zs : List Int) : Prop :=
  (a = none ∧ len = 0 ∧ cap = 0 ∧ zs = []) ∨
  ∃ x, a = some x ∧ len ≤ cap ∧ cap ≤ maxLen ∧ zs.length = cap ∧ (∀ i, i < zs.length → w.cell? (x.add i) = some (.int k (zs.getD i 0))) ∧ ∀ n ∈ zs, (Lit.int k n).wf = true

set_option maxHeartbeats 400000 in
theorem bytes_any (a0 a2 : Option Addr) (len0 cap0 len2 cap2 : Nat) (a1 : Int) (w : World) (h : len0 + len2 ≤ 1048576) :
    Calls Try.prog 11 #[.slice a0 len0 cap0, .int .i64 a1, .slice a2 len2 cap2] w fun e w' => e = .returned (.bool true) ∧ w' = w := by
  go_enter Try.func11, Try.ntmps11
  go_wp2
  go_ret
  exact ⟨rfl, rfl⟩

set_option maxHeartbeats 400000 in
theorem bytes_no (a0 a2 : Option Addr) (len0 cap0 len2 cap2 : Nat) (a1 : Int) (w : World) (hm0 : len0 ≤ maxLen) (hm2 : len2 ≤ maxLen) (h : 1048576 < len0 + len2) :
    Calls Try.prog 11 #[.slice a0 len0 cap0, .int .i64 a1, .slice a2 len2 cap2] w fun e w' => e = .returned (.bool false) ∧ w' = w := by
  unfold maxLen at hm0 hm2
  by_cases h1 : 1048576 < len0
  · clear h
    go_enter Try.func11, Try.ntmps11
    go_wp2
    go_ret
    exact ⟨rfl, rfl⟩
  · by_cases h2 : 1048576 < len2
    · clear h
      go_enter Try.func11, Try.ntmps11
      go_wp2
      go_ret
      exact ⟨rfl, rfl⟩
    · go_enter Try.func11, Try.ntmps11
      go_wp2
      go_ret
      exact ⟨rfl, rfl⟩

set_option maxHeartbeats 400000 in
theorem walk_big (a0 a2 : Option Addr) (len0 cap0 len2 cap2 : Nat) (a1 : Int) (w : World) (hm0 : len0 ≤ maxLen) (hm2 : len2 ≤ maxLen) (h : 1048576 < len0 + len2) :
    Calls Try.prog 4 #[.slice a0 len0 cap0, .int .i64 a1, .slice a2 len2 cap2] w fun e w' => e = .returned (.bool true) ∧ w' = w := by
  go_enter Try.func4, Try.ntmps4
  go_wp2_with (go_at_call 11; refine (bytes_no _ _ _ _ _ _ _ _ hm0 hm2 h).mono ?_; rintro e w' ⟨rfl, rfl⟩)
  go_ret
  exact ⟨rfl, rfl⟩

set_option maxHeartbeats 400000 in
theorem walk_out (a0 a2 : Option Addr) (len0 cap0 len2 cap2 : Nat) (a1 : Int) (w : World) (hl : len0 + len2 ≤ 1048576) (h : a1 < 0 ∨ (len0 : Int) ≤ a1) :
    Calls Try.prog 4 #[.slice a0 len0 cap0, .int .i64 a1, .slice a2 len2 cap2] w fun e w' => e = .returned (.bool true) ∧ w' = w := by
  by_cases h2 : a1 < 0
  · clear h
    go_enter Try.func4, Try.ntmps4
    go_wp2_with (go_at_call 11; refine (bytes_any _ _ _ _ _ _ _ _ hl).mono ?_; rintro e w' ⟨rfl, rfl⟩)
    go_ret
    exact ⟨rfl, rfl⟩
  · have h3 : (len0 : Int) ≤ a1 := by omega
    clear h
    go_enter Try.func4, Try.ntmps4
    go_wp2_with (go_at_call 11; refine (bytes_any _ _ _ _ _ _ _ _ hl).mono ?_; rintro e w' ⟨rfl, rfl⟩)
    go_ret
    exact ⟨rfl, rfl⟩

/-- The world behind the two clones and the first call. -/
structure Made (w w2 : World) (B0 len0 len2 start : Nat) (ta : Option Addr) (f t : Nat → Int) : Prop where
  bel : Below w.heap.size w w2
  old : w.heap.size ≤ B0
  lt : B0 < w2.heap.size
  line : ∀ i, i < len0 → w2.cell? ⟨B0, i, none⟩ = some (.int .u8 (f i))
  tail : 0 < len2 → ∃ B, ta = some ⟨B, 0, none⟩ ∧ B < w2.heap.size ∧ ∀ i, i < len2 → w2.cell? ⟨B, i, none⟩ = some (.int .u8 (t i))

theorem made {w w1 w2 : World} {len0 len2 start : Nat} {ta : Option Addr} {f t : Nat → Int} (h1 : Clone.Copied w.heap.size len0 f len0 w w1) (h2 : Below w1.heap.size w1 w2)
    (h3 : 0 < len2 → ∃ B, ta = some ⟨B, 0, none⟩ ∧ B < w2.heap.size ∧ ∀ i, i < len2 → w2.cell? ⟨B, i, none⟩ = some (.int .u8 (t i))) : Made w w2 w.heap.size len0 len2 start ta f t := by
  obtain ⟨hc, hb, hlt⟩ := Clone.copied_all h1
  refine ⟨hb.trans (h2.mono (by omega)), Nat.le_refl _, by have := h2.size; omega, fun i hi => ?_, h3⟩
  rw [h2.cell (by exact hlt)]
  have := hc i hi
  rwa [Nat.zero_add] at this

set_option maxHeartbeats 800000 in
theorem walk_in (b off len0 cap0 start : Nat) (f t : Nat → Int) (a2 : Option Addr) (len2 cap2 : Nat) (w : World) (h1 : len0 + len2 ≤ 1048576) (h2 : start < len0)
    (HC : Hid (∀ i, i < len0 → w.cell? ⟨b, off + i, none⟩ = some (.int .u8 (f i)))) (hnil : Hid (a2 = none → len2 = 0 ∧ cap2 = 0))
    (hrow : Hid (0 < len2 → ∃ b off, a2 = some ⟨b, off, none⟩ ∧ ∀ i, i < len2 → w.cell? ⟨b, off + i, none⟩ = some (.int .u8 (t i)))) :
    Calls Try.prog 4 #[.slice (some ⟨b, off, none⟩) len0 cap0, .int .i64 start, .slice a2 len2 cap2] w fun e w' => e = .returned (.bool true) ∧ Below w.heap.size w w' := by
  have hb : b < w.heap.size := World.block_lt_of_cell? w _ (HC.out 0 (by omega))
  have d1 : decide ((1048576 : Int) < (len0 : Int)) = false := decide_eq_false (by omega)
  have d2 : decide ((1048576 : Int) < (len2 : Int)) = false := decide_eq_false (by omega)
  have d3 : decide ((1048576 : Int) < (len0 : Int) + (len2 : Int)) = false := decide_eq_false (by omega)
  have d4 : decide ((start : Int) < 0) = false := decide_eq_false (by omega)
  go_enter Try.func4, Try.ntmps4
  go_wp2_with fail
  refine (bytes_any _ _ _ _ _ _ _ _ h1).mono ?_
  rintro e w' ⟨rfl, rfl⟩
  go_wp2_with fail
  refine (Clone.clone_row b off len0 cap0 f _ (by omega) hb HC).mono ?_
  rintro e w1 ⟨rfl, hcop⟩
  have Hcop := Clone.hide hcop
  have Hrow1 : Hid (0 < len2 → ∃ b off, a2 = some ⟨b, off, none⟩ ∧ ∀ i, i < len2 → w1.cell? ⟨b, off + i, none⟩ = some (.int .u8 (t i))) := by
    intro h0
    obtain ⟨b, off, e, hc⟩ := hrow.out h0
    refine ⟨b, off, e, fun i hi => ?_⟩
    rw [hcop.2.cell (by exact World.block_lt_of_cell? _ _ (hc i hi))]
    exact hc i hi
  clear hcop hrow HC
  go_wp2_with fail
  refine (Blind.clone_any a2 len2 cap2 t _ (by omega) hnil.out Hrow1.out).mono ?_
  rintro e w2 ⟨ta, rfl, hb2, ht2⟩
  have HM := Clone.hide (made (start := start) Hcop.out hb2 ht2)
  clear Hcop Hrow1 hnil hb2 ht2
  have C1 := Clone.hide (FieldW.zzfield_any w'.heap.size 0 len0 len0 start f w2 (by omega) h2 (fun i hi => by rw [Nat.zero_add]; exact HM.out.line i hi))
  clear hb
  obtain ⟨i0, hi, hz0, hz1, hz2⟩ := info_parts Clone.info5
  have hc0 : w2.cell? ⟨w'.heap.size, start, none⟩ = some (.int .u8 (f start)) := HM.out.line start h2
  go_wp2_with fail
  by_cases hq : f start = 34
  · rw [hq] at hc0
    by_cases hr : Ends.fe f len0 start = -1
    · rw [hr] at C1
      refine C1.out.mono ?_
      rintro e w3 ⟨rfl, rfl⟩
      clear hq hr
      go_wp2_with fail
      go_ret
      exact ⟨rfl, HM.out.bel⟩
    · obtain ⟨E, hE, hE1, hE2, hE3, hE4⟩ := Blind.quoted h2 hq hr
      rw [hE] at C1
      have hcE : w2.cell? ⟨w'.heap.size, E, none⟩ = some (.int .u8 34) := by rw [← hE3]; exact HM.out.line E hE2
      have HE4 := Clone.hide hE4
      clear hq hr hE hE3 hE4
      refine C1.out.mono ?_
      rintro e w3 ⟨rfl, rfl⟩
      have d5 : decide ((E : Int) + 1 < (start : Int) + 2) = false := decide_eq_false (by omega)
      have d6 : decide ((len0 : Int) < (E : Int) + 1) = false := decide_eq_false (by omega)
      have hmb : i0.bytes * (E + 1 + len2) ≤ 281474976710656 := by rw [hz2]; omega
      have hml : E + 1 + len2 ≤ maxLen := by unfold maxLen; omega
      go_wp2_with (first | (at_make; refine wpList_make_full _ rfl _ _ 22 rfl w3.heap.size 5 i0 (.int .u8 0) 1 Try.underlying22 hi hz0 hz1 _ _ _ _ (E + 1 + len2) rfl rfl (by omega) (by omega) hmb hml (Nat.le_refl _) ?_; intro w4 hown hgrow))
      have hst : Clone.Copied w3.heap.size (E + 1 + len2) (Blind.join (E + 1) f t) 0 w3 w4 := ⟨⟨_, hown, fun i hi => by omega⟩, (Below.refl _ _).grown hgrow (Nat.le_refl _) (fun k hk => by simp at hk)⟩
      clear hown hgrow hmb hml hi hz0 hz1 hz2 hcE hc0
      go_loopw [10] (fun i wr => ∃ k : Nat, k ≤ E + 1 ∧ i = .int .i64 k ∧ Hid (Clone.Copied w3.heap.size (E + 1 + len2) (Blind.join (E + 1) f t) k w3 wr)) (fun i _ => E + 1 - (intOf i).toNat)
      case atStart => exact ⟨0, Nat.zero_le _, rfl, hst⟩
      case round =>
        obtain ⟨k, hk, rfl, HR⟩ := hrel
        clear hst
        by_cases hlt : k < E + 1
        · obtain ⟨⟨v, hv⟩, hf⟩ := Clone.copied_cell HR.out (by omega)
          have hck : wr.cell? ⟨w'.heap.size, k, none⟩ = some (.int .u8 (f k)) := (HR.out.2.cell (by exact HM.out.lt)).trans (HM.out.line k (by omega))
          have HR' := Clone.hide (Clone.copied_step HR.out (by omega))
          rw [Blind.join_left hlt] at HR'
          clear HR
          go_wp2
          go_roundw
          case rel => exact ⟨k + 1, by omega, by go_num, HR'⟩
          case measure => simp [intOf]; omega
        · obtain rfl : k = E + 1 := by omega
          go_wp2
          go_loopw [11] (fun i wr => ∃ k : Nat, k ≤ len2 ∧ i = .int .i64 k ∧ Hid (Clone.Copied w3.heap.size (E + 1 + len2) (Blind.join (E + 1) f t) (E + 1 + k) w3 wr)) (fun i _ => len2 - (intOf i).toNat)
          case atStart => exact ⟨0, Nat.zero_le _, rfl, HR⟩
          case round =>
            obtain ⟨k, hk, rfl, HR2⟩ := hrel
            clear HR
            by_cases hlt : k < len2
            · obtain ⟨⟨v, hv⟩, hf⟩ := Clone.copied_cell HR2.out (by omega)
              obtain ⟨B, rfl, hB, hBc⟩ := HM.out.tail (by omega)
              have hck : wr.cell? ⟨B, k, none⟩ = some (.int .u8 (t k)) := (HR2.out.2.cell (by exact hB)).trans (hBc k hlt)
              have HR' := Clone.hide (Clone.copied_step HR2.out (by omega))
              rw [Blind.join_right k] at HR'
              clear HR2 hBc
              go_wp2
              go_roundw
              case rel => exact ⟨k + 1, by omega, by go_num, HR'⟩
              case measure => simp [intOf]; omega
            · obtain rfl : k = len2 := by omega
              obtain ⟨hcell, hbel, _⟩ := Clone.copied_all HR2.out
              have C2 := Clone.hide (FieldW.zzfield_any w3.heap.size 0 (E + 1 + k) (E + 1 + k) start (Blind.join (E + 1) f t) wr (by omega) (by omega) hcell)
              rw [HE4.out t (E + 1 + k) (by omega)] at C2
              have HB : Below w'.heap.size w' wr := HM.out.bel.trans (hbel.mono (by have := HM.out.lt; have := HM.out.old; omega))
              clear hcell hbel HR2
              go_wp2_with fail
              refine C2.out.mono ?_
              rintro e w5 ⟨rfl, rfl⟩
              go_wp2_with fail
              go_ret
              exact ⟨FieldW.ret_bool (by simp), HB⟩
  · have e34 : (f start == 34) = false := by simpa using hq
    obtain ⟨E, hE, hE1, hE2, hE3⟩ := Blind.plain h2 hq
    rw [hE] at C1
    clear hq hE
    by_cases hEl : E = len0
    · subst hEl
      have d5 : decide ((E : Int) < (start : Int)) = false := decide_eq_false (by omega)
      clear hE3
      refine C1.out.mono ?_
      rintro e w3 ⟨rfl, rfl⟩
      go_wp2_with fail
      go_ret
      exact ⟨rfl, HM.out.bel⟩
    · have hE2' : E < len0 := by omega
      obtain ⟨hst, hE4⟩ := hE3 hE2'
      have hcE : w2.cell? ⟨w'.heap.size, E, none⟩ = some (.int .u8 (f E)) := HM.out.line E hE2'
      have HE4 := Clone.hide hE4
      have CS := Clone.hide (fun w => FieldW.stop_any (f E) w)
      rw [hst] at CS
      have d5 : decide ((E : Int) < (start : Int)) = false := decide_eq_false (by omega)
      have d6 : decide ((len0 : Int) < (E : Int)) = false := decide_eq_false (by omega)
      have d7 : ((E : Int) == (len0 : Int)) = false := beq_eq_false_iff_ne.2 (by omega)
      clear hst hE3 hE4 hEl
      refine C1.out.mono ?_
      rintro e w3 ⟨rfl, rfl⟩
      have hmb : i0.bytes * (E + 1 + len2) ≤ 281474976710656 := by rw [hz2]; omega
      have hml : E + 1 + len2 ≤ maxLen := by unfold maxLen; omega
      go_wp2_with (first | (at_make; refine wpList_make_full _ rfl _ _ 22 rfl w3.heap.size 5 i0 (.int .u8 0) 1 Try.underlying22 hi hz0 hz1 _ _ _ _ (E + 1 + len2) rfl rfl (by omega) (by omega) hmb hml (Nat.le_refl _) ?_; intro w4 hown hgrow) | (go_at_call 12; refine (CS.out _).mono ?_; rintro e wx ⟨rfl, hwx⟩; replace hwx := hwx.symm; subst hwx))
      have hst : Clone.Copied w3.heap.size (E + 1 + len2) (Blind.join (E + 1) f t) 0 w3 w4 := ⟨⟨_, hown, fun i hi => by omega⟩, (Below.refl _ _).grown hgrow (Nat.le_refl _) (fun k hk => by simp at hk)⟩
      clear hown hgrow hmb hml hi hz0 hz1 hz2 hcE hc0
      go_loopw [10] (fun i wr => ∃ k : Nat, k ≤ E + 1 ∧ i = .int .i64 k ∧ Hid (Clone.Copied w3.heap.size (E + 1 + len2) (Blind.join (E + 1) f t) k w3 wr)) (fun i _ => E + 1 - (intOf i).toNat)
      case atStart => exact ⟨0, Nat.zero_le _, rfl, hst⟩
      case round =>
        obtain ⟨k, hk, rfl, HR⟩ := hrel
        clear hst
        by_cases hlt : k < E + 1
        · obtain ⟨⟨v, hv⟩, hf⟩ := Clone.copied_cell HR.out (by omega)
          have hck : wr.cell? ⟨w'.heap.size, k, none⟩ = some (.int .u8 (f k)) := (HR.out.2.cell (by exact HM.out.lt)).trans (HM.out.line k (by omega))
          have HR' := Clone.hide (Clone.copied_step HR.out (by omega))
          rw [Blind.join_left hlt] at HR'
          clear HR
          go_wp2
          go_roundw
          case rel => exact ⟨k + 1, by omega, by go_num, HR'⟩
          case measure => simp [intOf]; omega
        · obtain rfl : k = E + 1 := by omega
          go_wp2
          go_loopw [11] (fun i wr => ∃ k : Nat, k ≤ len2 ∧ i = .int .i64 k ∧ Hid (Clone.Copied w3.heap.size (E + 1 + len2) (Blind.join (E + 1) f t) (E + 1 + k) w3 wr)) (fun i _ => len2 - (intOf i).toNat)
          case atStart => exact ⟨0, Nat.zero_le _, rfl, HR⟩
          case round =>
            obtain ⟨k, hk, rfl, HR2⟩ := hrel
            clear HR
            by_cases hlt : k < len2
            · obtain ⟨⟨v, hv⟩, hf⟩ := Clone.copied_cell HR2.out (by omega)
              obtain ⟨B, rfl, hB, hBc⟩ := HM.out.tail (by omega)
              have hck : wr.cell? ⟨B, k, none⟩ = some (.int .u8 (t k)) := (HR2.out.2.cell (by exact hB)).trans (hBc k hlt)
              have HR' := Clone.hide (Clone.copied_step HR2.out (by omega))
              rw [Blind.join_right k] at HR'
              clear HR2 hBc
              go_wp2
              go_roundw
              case rel => exact ⟨k + 1, by omega, by go_num, HR'⟩
              case measure => simp [intOf]; omega
            · obtain rfl : k = len2 := by omega
              obtain ⟨hcell, hbel, _⟩ := Clone.copied_all HR2.out
              have C2 := Clone.hide (FieldW.zzfield_any w3.heap.size 0 (E + 1 + k) (E + 1 + k) start (Blind.join (E + 1) f t) wr (by omega) (by omega) hcell)
              rw [HE4.out t (E + 1 + k) (by omega)] at C2
              have HB : Below w'.heap.size w' wr := HM.out.bel.trans (hbel.mono (by have := HM.out.lt; have := HM.out.old; omega))
              clear hcell hbel HR2
              go_wp2_with fail
              refine C2.out.mono ?_
              rintro e w5 ⟨rfl, rfl⟩
              go_wp2_with fail
              go_ret
              exact ⟨FieldW.ret_bool (by simp), HB⟩

/-- THE WALK: the Go text returns true, and writes nothing that was there. -/
theorem walk (a0 : Option Addr) (len0 cap0 : Nat) (z0 : List Int) (a1 : Int) (a2 : Option Addr) (len2 cap2 : Nat) (z2 : List Int) (w : World) (w0 : IsRow .u8 w a0 len0 cap0 z0) (w1 : (Lit.int .i64 a1).wf = true) (w2 : IsRow .u8 w a2 len2 cap2 z2) :
    Calls Try.prog 4 #[.slice a0 len0 cap0, .int .i64 a1, .slice a2 len2 cap2] w fun e w' => e = .returned (.bool true) ∧ Below w.heap.size w w' := by
  have hm0 : len0 ≤ maxLen := by
    rcases w0 with ⟨_, rfl, _⟩ | ⟨_, _, h, h', _⟩
    · exact Nat.zero_le _
    · omega
  have hm2 : len2 ≤ maxLen := by
    rcases w2 with ⟨_, rfl, _⟩ | ⟨_, _, h, h', _⟩
    · exact Nat.zero_le _
    · omega
  by_cases hl : 1048576 < len0 + len2
  · refine (walk_big a0 a2 len0 cap0 len2 cap2 a1 w hm0 hm2 hl).mono ?_
    rintro e w' ⟨rfl, rfl⟩
    exact ⟨rfl, Below.refl _ _⟩
  by_cases h : a1 < 0 ∨ (len0 : Int) ≤ a1
  · refine (walk_out a0 a2 len0 cap0 len2 cap2 a1 w (by omega) h).mono ?_
    rintro e w' ⟨rfl, rfl⟩
    exact ⟨rfl, Below.refl _ _⟩
  · obtain ⟨start, rfl⟩ := Int.eq_ofNat_of_zero_le (show 0 ≤ a1 by omega)
    rcases w0 with ⟨_, h0, _, _⟩ | ⟨x, rfl, hlc, hcm, hz, hcell, _⟩
    · omega
    · obtain ⟨b, off, rfl, hc⟩ := ints_at hcell (by omega)
      refine walk_in b off len0 cap0 start (fun i => z0.getD i 0) (fun i => z2.getD i 0) a2 len2 cap2 w (by omega) (by omega) (fun i hi => hc i (by omega)) ?_ ?_
      · intro e
        rcases w2 with ⟨_, h1, h2, _⟩ | ⟨y, e', _⟩
        · exact ⟨h1, h2⟩
        · rw [e] at e'; cases e'
      · intro h0
        rcases w2 with ⟨_, h1, _, _⟩ | ⟨y, rfl, hlc2, hcm2, hz2, hcell2, _⟩
        · omega
        · obtain ⟨b2, off2, rfl, hc2⟩ := ints_at hcell2 (by omega)
          exact ⟨b2, off2, rfl, fun i hi => hc2 i (by omega)⟩

/-! ### THE ROW's STEP: AS THE SHELL HAS IT -/
set_option maxRecDepth 100000 in
theorem lifted (os : Os) (started : os.Started) (H : Type) (enc : TypeId × Value → H) :
    ReturnsInHanded {} Try.checked os 4 .any (Rows.fnFieldEndBoundedAndBlindToWhatFollowsSpec.pre6 enc Try.prog Try.f4 Rows.fnFieldEndBoundedAndBlindToWhatFollowsRow.domain false) (Rows.fnFieldEndBoundedAndBlindToWhatFollowsSpec.post enc Try.prog Try.f4 false true false false) := by
  refine returnsInHanded_of_change (C := Try.checked) own started (by kernel_rfl) Try.func4
    (ChangeSpec.witness6 (enc := enc) (C := Try.checked) false ⟨#[], #[.slice none 0 0, .int .i64 0, .slice none 0 0], []⟩ 8 (by kernel_rfl) (by kernel_rfl) (by kernel_rfl) (by kernel_rfl)) ?_
  intro W base args ds gs before hval0 hW hcnd _
  have hval : ∀ (j : Nat) t v, Try.f4.params[j]? = some t → args[j]? = some v → Value.okWide Try.prog W .any base t v := hval0
  have hW' := hW
  obtain ⟨p, q, hA0, hV, rfl, hfz, hnd⟩ := hW
  have hA : DataW.TrodAll enc Try.prog W 0 (fun _ => true) true Try.f4.params.toList args.toList ds p := hA0
  rw [Try.params4] at hA hval
  obtain ⟨v0, vs0, d0, ds0, p0, q0, hargs, rfl, rfl, h0, r0⟩ := trodAll_cons hA
  obtain ⟨v1, vs1, d1, ds1, p1, q1, rfl, rfl, rfl, h1, r1⟩ := trodAll_cons r0
  obtain ⟨v2, vs2, d2, ds2, p2, q2, rfl, rfl, rfl, h2, r2⟩ := trodAll_cons r1
  obtain ⟨rfl, rfl, rfl⟩ := trodAll_nil r2
  obtain rfl : args = #[v0, v1, v2] := by cases args; simp_all
  obtain ⟨rfl, rfl⟩ := trodVars_none hV
  obtain ⟨a0, len0, cap0, rfl⟩ := okWide_slice Try.underlying22 (hval 0 22 v0 rfl rfl)
  have k0 := h0
  have lt0 : ∀ x ∈ p0, x.block < W.heap.size := by obtain ⟨m, hm⟩ := k0; exact DataW.trod_lt m _ _ _ hm
  obtain ⟨z0, w0⟩ : ∃ zs, IsRow .u8 W a0 len0 cap0 zs := by
    obtain ⟨fuel, hf⟩ := h0
    rcases open_ints Try.underlying22 Try.underlying5 (by kernel_rfl) hf with ⟨hcs, _⟩ | ⟨x, l, c, zs, hcs, _, hl, hm, hz, _, hcell, hwz⟩
    · simp [Value.cells] at hcs
      obtain ⟨rfl, rfl, rfl⟩ := hcs
      exact ⟨[], .inl ⟨rfl, rfl, rfl, rfl⟩⟩
    · simp [Value.cells] at hcs
      obtain ⟨rfl, rfl, rfl⟩ := hcs
      exact ⟨zs, .inr ⟨_, rfl, hl, hm, by simpa using hz, hcell, hwz⟩⟩
  obtain ⟨a1, rfl, rfl, rfl, w1⟩ := open_int Try.underlying3 (hval 1 3 v1 rfl rfl) h1
  obtain ⟨a2, len2, cap2, rfl⟩ := okWide_slice Try.underlying22 (hval 2 22 v2 rfl rfl)
  have k2 := h2
  have lt2 : ∀ x ∈ p2, x.block < W.heap.size := by obtain ⟨m, hm⟩ := k2; exact DataW.trod_lt m _ _ _ hm
  obtain ⟨z2, w2⟩ : ∃ zs, IsRow .u8 W a2 len2 cap2 zs := by
    obtain ⟨fuel, hf⟩ := h2
    rcases open_ints Try.underlying22 Try.underlying5 (by kernel_rfl) hf with ⟨hcs, _⟩ | ⟨x, l, c, zs, hcs, _, hl, hm, hz, _, hcell, hwz⟩
    · simp [Value.cells] at hcs
      obtain ⟨rfl, rfl, rfl⟩ := hcs
      exact ⟨[], .inl ⟨rfl, rfl, rfl, rfl⟩⟩
    · simp [Value.cells] at hcs
      obtain ⟨rfl, rfl, rfl⟩ := hcs
      exact ⟨zs, .inr ⟨_, rfl, hl, hm, by simpa using hz, hcell, hwz⟩⟩
  clear hA0 hval0
  refine (walk a0 len0 cap0 z0 a1 a2 len2 cap2 z2 W w0 w1 w2).mono fun e W' ⟨he, bel⟩ => ?_
  subst he
  exact ⟨_, rfl, _, _, _, [], _, [], hW', trodAll_mk1 (shut_bool Try.underlying4 _), (trodAll_cons_mk (Below.trod laidOut (by kernel_rfl) (of_decide_eq_true (by kernel_rfl)) k0 bel lt0) (trodAll_cons_mk (shut_int Try.underlying3 w1) (trodAll_cons_mk (Below.trod laidOut (by kernel_rfl) (of_decide_eq_true (by kernel_rfl)) k2 bel lt2) trodAll_mk0))), rfl, bel.frame _, fun h => by cases h⟩

theorem over : Rows.fnFieldEndBoundedAndBlindToWhatFollowsRow.holds Try.pinned (OpenSpec.ofChange Rows.fnFieldEndBoundedAndBlindToWhatFollowsSpec) :=
  OpenClaim.holds_of_wide 4 Try.f4 rfl rfl rfl rfl rfl rfl rfl ⟨rfl, rfl, rfl, rfl, rfl⟩ rfl rfl rfl rfl rfl (by kernel_rfl) Try.func4 (by kernel_rfl)
    (of_decide_eq_true (by kernel_rfl)) (by unfold Func.isWrapper; first | (rw [if_pos (by decide +kernel)]; kernel_rfl) | (rw [if_neg (by decide +kernel)]; exact ⟨rfl, rfl⟩))
    (fun os started H enc _ => lifted os started H enc)

/-- ████ THE STATEMENT ████ -/
theorem proved : Rows.FnFieldEndBoundedAndBlindToWhatFollowsSaid := over
end Go.Proofs.Qxb6601226a.fnFieldEndBoundedAndBlindToWhatFollows
