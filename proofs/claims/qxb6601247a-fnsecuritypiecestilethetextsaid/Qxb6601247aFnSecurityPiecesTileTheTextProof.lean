/-
  SEAT b6601247a: THE PROOF OF 'Rows.FnSecurityPiecesTileTheTextSaid'. The frame (how the arguments are opened and shut) is the guide's shell for this function; the walk is ours.
-/
import Derived.Test.Qxb6601247aRows
import Derived.WalkKit
import Derived.ProofKit
import Derived.OpenShut
import Derived.ShutString
import Derived.ChangeOld
import Derived.Below
import Derived.Test.Qxb6601247aSec
import Derived.Lib.SliceRun
namespace Go.Proofs.Qxb6601247a.fnSecurityPiecesTileTheText
open Go.ChangeShapes Go.WideShapes Go.ChangeAt Go.RowKit
open Go.ChangeMaps (open_string shut_string)
set_option linter.unusedVariables false

theorem own : ownKnob Try.prog.godebug = none := by kernel_rfl
theorem laidOut : laidOutB Try.prog = true := by kernel_rfl

/-- WHAT THE WALK IS TOLD OF A SLICE OF INTEGERS THAT CAME IN: it is nil; or it leads to a row of 'cap' cells, the numbers 'zs' (the first 'len' are its elements, the rest its spare room), each fitting its kind. -/
def IsRow (k : IntKind) (w : World) (a : Option Addr) (len cap : Nat) (zs : List Int) : Prop :=
  (a = none ∧ len = 0 ∧ cap = 0 ∧ zs = []) ∨
  ∃ x, a = some x ∧ len ≤ cap ∧ cap ≤ maxLen ∧ zs.length = cap ∧ (∀ i, i < zs.length → w.cell? (x.add i) = some (.int k (zs.getD i 0))) ∧ ∀ n ∈ zs, (Lit.int k n).wf = true

theorem info27 : (Try.prog.info? 27).map (fun i => (i.zero, i.size, i.bytes)) = some (some (.int .u32 0), 1, 4) := by kernel_rfl

set_option maxHeartbeats 400000 in
theorem bytes_any (a0 : ByteArray) (a1 : Option Addr) (len1 cap1 : Nat) (w : World) (h : a0.size + len1 ≤ 1048576) :
    Calls Try.prog 11 #[.string a0, .slice a1 len1 cap1] w fun e w' => e = .returned (.bool true) ∧ w' = w := by
  go_enter Try.func11, Try.ntmps11
  go_wp2
  go_ret
  exact ⟨rfl, rfl⟩

set_option maxHeartbeats 400000 in
theorem bytes_no (a0 : ByteArray) (a1 : Option Addr) (len1 cap1 : Nat) (w : World) (hm0 : a0.size ≤ maxLen) (hm1 : len1 ≤ maxLen) (h : 1048576 < a0.size + len1) :
    Calls Try.prog 11 #[.string a0, .slice a1 len1 cap1] w fun e w' => e = .returned (.bool false) ∧ w' = w := by
  unfold maxLen at hm0 hm1
  by_cases h1 : 1048576 < a0.size
  · clear h
    go_enter Try.func11, Try.ntmps11
    go_wp2
    go_ret
    exact ⟨rfl, rfl⟩
  · by_cases h2 : 1048576 < len1
    · clear h
      go_enter Try.func11, Try.ntmps11
      go_wp2
      go_ret
      exact ⟨rfl, rfl⟩
    · go_enter Try.func11, Try.ntmps11
      go_wp2
      go_ret
      exact ⟨rfl, rfl⟩

set_option maxHeartbeats 400000 in
/-- The input is large. -/
theorem walk_big (a0 : ByteArray) (a1 : Option Addr) (len1 cap1 : Nat) (w : World) (hm0 : a0.size ≤ maxLen) (hm1 : len1 ≤ maxLen) (h : 1048576 < a0.size + 8 * len1) :
    Calls Try.prog 5 #[.string a0, .slice a1 len1 cap1] w fun e w' => e = .returned (.bool true) ∧ w' = w := by
  by_cases hb : 1048576 < a0.size + len1
  · clear h
    go_enter Try.func5, Try.ntmps5
    go_wp2_with (go_at_call 11; refine (bytes_no _ _ _ _ _ hm0 hm1 hb).mono ?_; rintro e w' ⟨rfl, rfl⟩)
    go_ret
    exact ⟨rfl, rfl⟩
  · have hb' : a0.size + len1 ≤ 1048576 := by omega
    by_cases h2 : 131072 < len1
    · clear h hb
      go_enter Try.func5, Try.ntmps5
      go_wp2_with (go_at_call 11; refine (bytes_any _ _ _ _ _ hb').mono ?_; rintro e w' ⟨rfl, rfl⟩)
      go_ret
      exact ⟨rfl, rfl⟩
    · have h3 : (1048576 : Int) < (a0.size : Int) + 8 * (len1 : Int) := by omega
      clear h hb
      go_enter Try.func5, Try.ntmps5
      go_wp2_with (go_at_call 11; refine (bytes_any _ _ _ _ _ hb').mono ?_; rintro e w' ⟨rfl, rfl⟩)
      go_ret
      exact ⟨rfl, rfl⟩

set_option maxHeartbeats 400000 in
/-- No ends: nil. -/
theorem walk_nil (a0 : ByteArray) (w : World) (h : a0.size ≤ 1048576) :
    Calls Try.prog 5 #[.string a0, .slice none 0 0] w fun e w' => e = .returned (.bool true) ∧ Below w.heap.size w w' := by
  obtain ⟨i0, hi, hz0, hz1, hz2⟩ := info_parts info27
  have q25 : ∀ (w : World) (a : Option Addr) (n c n' c' : Nat), (binOp .eql 25 (.slice a n c) (.slice none n' c')).run Try.prog w = .ok (.bool a.isNone) w := fun w a n c n' c' => Lib.run_eql_slice_nil w 25 27 a n c n' c' Try.underlying25
  have hmb : i0.bytes * 0 ≤ 281474976710656 := by rw [hz2]; omega
  have hml : 0 ≤ maxLen := Nat.zero_le _
  go_enter Try.func5, Try.ntmps5
  go_wp2_with (go_at_call 11; refine (bytes_any _ _ _ _ _ (by omega)).mono ?_; rintro e w' ⟨rfl, rfl⟩)
  refine wp_loop_rounds 1 ?_
  rw [rounds_succ]
  go_wp2_with (at_make; refine wpList_make_full _ rfl _ _ 25 rfl w'.heap.size 27 i0 (.int .u32 0) 1 Try.underlying25 hi hz0 hz1 _ _ _ _ 0 rfl rfl rfl rfl hmb hml (Nat.le_refl _) ?_; intro w1 hown hgrow)
  have HB : Hid (Below w'.heap.size w' w1) := (Below.refl _ _).grown hgrow (Nat.le_refl _) (fun k hk => by simp at hk)
  clear hown hgrow
  refine wp_loop_rounds 1 ?_
  rw [rounds_succ]
  go_wp2
  refine wp_loop_rounds 1 ?_
  rw [rounds_succ]
  go_wp2
  go_ret
  exact ⟨rfl, HB.out⟩

theorem slice_piece (s : ByteArray) (p L : Nat) (w : World) (h : p + L ≤ s.size) :
    (Instr.slice 9 (.string s) (some (.int .i64 (p : Int))) (some (.int .i64 ((p : Int) + (L : Int)))) none).run Try.prog w = .ok (.string (s.extract p (p + L))) w := by
  rw [run_slice_string w 9 s .i64 .i64 _ _ Try.underlying9 (by omega) (by omega) (by omega)]
  rfl

set_option maxHeartbeats 1600000 in
/-- Ends that are not nil. -/
theorem walk_some (a0 : ByteArray) (x : Addr) (len1 cap1 : Nat) (g : Nat → Nat) (w : World) (h : a0.size + 8 * len1 ≤ 1048576) (hg32 : Hid (∀ i, i < len1 → g i < 4294967296))
    (HC : Hid (0 < len1 → ∃ b off, x = ⟨b, off, none⟩ ∧ b < w.heap.size ∧ ∀ i, i < len1 → w.cell? ⟨b, off + i, none⟩ = some (.int .u32 (g i : Int)))) :
    Calls Try.prog 5 #[.string a0, .slice (some x) len1 cap1] w fun e w' => e = .returned (.bool true) ∧ Below w.heap.size w w' := by
  obtain ⟨i0, hi, hz0, hz1, hz2⟩ := info_parts info27
  have q25 : ∀ (w : World) (a : Option Addr) (n c n' c' : Nat), (binOp .eql 25 (.slice a n c) (.slice none n' c')).run Try.prog w = .ok (.bool a.isNone) w := fun w a n c n' c' => Lib.run_eql_slice_nil w 25 27 a n c n' c' Try.underlying25
  have hmb : i0.bytes * len1 ≤ 281474976710656 := by rw [hz2]; omega
  have hml : len1 ≤ maxLen := by unfold maxLen; omega
  have d1 : decide ((1048576 : Int) < (a0.size : Int)) = false := decide_eq_false (by omega)
  have d2 : decide ((131072 : Int) < (len1 : Int)) = false := decide_eq_false (by omega)
  have d3 : decide ((1048576 : Int) < (a0.size : Int) + 8 * (len1 : Int)) = false := decide_eq_false (by omega)
  go_enter Try.func5, Try.ntmps5
  go_wp2_with (go_at_call 11; refine (bytes_any _ _ _ _ _ (by omega)).mono ?_; rintro e w' ⟨rfl, rfl⟩)
  go_loop [5, 6] (fun p j => ∃ k : Nat, k ≤ len1 ∧ j = .int .i64 k ∧ p = .int .u32 (Sec.before g k : Int) ∧ Hid (∀ i, i < k → Sec.before g i ≤ g i)) (fun _ j => len1 - (intOf j).toNat)
  case atStart => exact ⟨0, Nat.zero_le _, rfl, rfl, fun i hi => absurd hi (by omega)⟩
  case round =>
    obtain ⟨k, hk, rfl, rfl, HM⟩ := hrel
    by_cases hlt : k < len1
    · obtain ⟨b, off, rfl, hb, hc⟩ := HC.out (by omega)
      have hck := hc k hlt
      clear hc
      by_cases hord : g k < Sec.before g k
      · go_wp2
        go_ret
        exact ⟨rfl, Below.refl _ _⟩
      · have hord' : Sec.before g k ≤ g k := by omega
        have HM' : Hid (∀ i, i < k + 1 → Sec.before g i ≤ g i) := fun i hi => by
          by_cases e : i = k
          · subst e; exact hord'
          · exact HM.out i (by omega)
        clear hord HM
        go_wp2
        go_round
        case rel => exact ⟨k + 1, by omega, by go_num, rfl, HM'⟩
        case measure => simp [intOf]; omega
    · obtain rfl : k = len1 := by omega
      have hp32 : Sec.before g k < 4294967296 := by
        cases k with
        | zero => show 0 < _; omega
        | succ n => exact hg32.out n (by omega)
      by_cases hbig : a0.size < Sec.before g k
      · go_wp2
        go_ret
        exact ⟨rfl, Below.refl _ _⟩
      · have d4 : decide ((a0.size : Int) < (Sec.before g k : Int)) = false := decide_eq_false (by omega)
        have HG : Hid (∀ i, i < k → g i ≤ a0.size) := fun i hi => Nat.le_trans (Sec.before_le HM.out k (Nat.le_refl _) i hi) (by omega)
        clear hlt
        go_wp2_with (at_make; refine wpList_make_full _ rfl _ _ 25 rfl w'.heap.size 27 i0 (.int .u32 0) 1 Try.underlying25 hi hz0 hz1 _ _ _ _ k rfl rfl rfl rfl hmb hml (Nat.le_refl _) ?_; intro w1 hown hgrow)
        have hst : Sec.Filled w'.heap.size k 27 (fun i => .int .u32 (g i : Int)) 0 w' w1 := ⟨⟨_, hown, fun i hi => by omega⟩, (Below.refl _ _).grown hgrow (Nat.le_refl _) (fun k hk => by simp at hk)⟩
        clear hown hgrow hmb hml hi hz0 hz1 hz2
        go_loopw [8] (fun i wr => ∃ m : Nat, m ≤ k ∧ i = .int .i64 m ∧ Hid (Sec.Filled w'.heap.size k 27 (fun i => .int .u32 (g i : Int)) m w' wr)) (fun i _ => k - (intOf i).toNat)
        case atStart => exact ⟨0, Nat.zero_le _, rfl, hst⟩
        case round =>
          obtain ⟨m, hm, rfl, HR⟩ := hrel
          clear hst
          by_cases hlt : m < k
          · obtain ⟨⟨v, hv⟩, hf⟩ := Sec.filled_cell HR.out hlt
            obtain ⟨b, off, rfl, hb, hc⟩ := HC.out (by omega)
            have hck : wr.cell? ⟨b, off + m, none⟩ = some (.int .u32 (g m : Int)) := (HR.out.2.cell (by exact hb)).trans (hc m hlt)
            have HR' := Sec.hide (Sec.filled_step HR.out hlt)
            clear HR hc
            go_wp2
            go_roundw
            case rel => exact ⟨m + 1, by omega, by go_num, HR'⟩
            case measure => simp [intOf]; omega
          · obtain rfl : m = k := by omega
            obtain ⟨hcell, hbel, hlt2⟩ := Sec.filled_all HR.out
            have HCm := Sec.hide hcell
            have HBm := Sec.hide hbel
            clear hcell hbel HR hlt
            obtain ⟨wm, hwm⟩ : ∃ wm : World, wm = wr := ⟨_, rfl⟩
            rw [← hwm] at HCm HBm hlt2
            have Hwm := Sec.hide hwm
            clear hwm
            go_wp2
            go_loopw [9, 10] (fun p j wr => ∃ q : Nat, q ≤ m ∧ j = .int .i64 q ∧ p = .int .i64 (Sec.before g q : Int) ∧ Hid (Below wm.heap.size wm wr)) (fun _ j _ => m - (intOf j).toNat)
            case atStart => exact ⟨0, Nat.zero_le _, rfl, rfl, by rw [← Hwm.out]; exact Below.refl _ _⟩
            case round =>
              obtain ⟨q, hq, rfl, rfl, HR⟩ := hrel
              clear Hwm
              by_cases hlt : q < m
              · have HC3 : Hid (∀ j, j < m → wr.cell? ⟨w'.heap.size, 0 + j, none⟩ = some (.int .u32 (g j : Int))) := fun j hj => by
                  rw [Nat.zero_add, HR.out.cell (by exact hlt2)]; exact HCm.out j hj
                have hle := HM.out q hlt
                have hge := HG.out q hlt
                have CS := Sec.hide (Sec.sec_any a0 w'.heap.size 0 m m q g wr (by omega) hlt (by omega) HC3.out hle hge)
                go_wp2_with fail
                refine CS.out.mono ?_
                rintro e w5 ⟨rfl, hb5⟩
                have hck : w5.cell? ⟨w'.heap.size, q, none⟩ = some (.int .u32 (g q : Int)) := by
                  rw [hb5.cell (by exact Nat.lt_of_lt_of_le hlt2 HR.out.size), HR.out.cell (by exact hlt2)]; exact HCm.out q hlt
                have HR' : Hid (Below wm.heap.size wm w5) := HR.out.trans (hb5.mono HR.out.size)
                have hqs : Sec.before g (q + 1) = g q := rfl
                obtain ⟨L, hL⟩ : ∃ L, g q = Sec.before g q + L := ⟨g q - Sec.before g q, by omega⟩
                generalize Sec.before g q = p at *
                have hsz : (a0.extract p (p + L)).size = L := by rw [ByteArray.size_extract]; omega
                rw [hL] at hck hge ⊢
                have HL := Sec.hide hL
                have Hqs := Sec.hide hqs
                clear hL hqs hb5 HC3 CS hle HR
                have hsl := slice_piece a0 p L w5 hge
                go_wp2_with fail
                go_roundw
                case rel => exact ⟨q + 1, by omega, by go_num, by rw [Hqs.out, HL.out]; go_num, HR'⟩
                case measure => simp [intOf]; omega
              · go_wp2
                go_ret
                exact ⟨rfl, HBm.out.trans (HR.out.mono (by omega))⟩

/-- THE WALK: the Go text returns true, and writes nothing that was there. -/
theorem walk (a0 : ByteArray) (a1 : Option Addr) (len1 cap1 : Nat) (z1 : List Int) (w : World) (w0 : a0.size ≤ maxLen) (w1 : IsRow .u32 w a1 len1 cap1 z1) :
    Calls Try.prog 5 #[.string a0, .slice a1 len1 cap1] w fun e w' => e = .returned (.bool true) ∧ Below w.heap.size w w' := by
  have hm1 : len1 ≤ maxLen := by
    rcases w1 with ⟨_, rfl, _⟩ | ⟨_, _, h, h', _⟩
    · exact Nat.zero_le _
    · omega
  by_cases hl : 1048576 < a0.size + 8 * len1
  · refine (walk_big a0 a1 len1 cap1 w w0 hm1 hl).mono ?_
    rintro e w' ⟨rfl, rfl⟩
    exact ⟨rfl, Below.refl _ _⟩
  · rcases w1 with ⟨rfl, rfl, rfl, _⟩ | ⟨x, rfl, hlc, hcm, hz, hcell, hwf⟩
    · exact walk_nil a0 w (by omega)
    · have hr : ∀ i, i < len1 → 0 ≤ z1.getD i 0 ∧ z1.getD i 0 < 4294967296 := by
        intro i hi
        have hm : z1.getD i 0 ∈ z1 := by
          rw [List.getD_eq_getElem?_getD, List.getElem?_eq_getElem (by omega)]; exact List.getElem_mem _
        have := bounds_u32 (hwf _ hm)
        omega
      refine walk_some a0 x len1 cap1 (fun i => (z1.getD i 0).toNat) w (by omega) (fun i hi => by have := hr i hi; show (z1.getD i 0).toNat < _; omega) ?_
      intro h0
      obtain ⟨b, off, rfl, hc⟩ := ints_at hcell (by omega)
      refine ⟨b, off, rfl, World.block_lt_of_cell? w _ (hc 0 (by omega)), fun i hi => ?_⟩
      rw [hc i (by omega)]
      show some (Value.int .u32 (z1.getD i 0)) = some (Value.int .u32 ((z1.getD i 0).toNat : Int))
      rw [Int.toNat_of_nonneg (hr i hi).1]

/-! ### THE ROW's STEP: AS THE SHELL HAS IT -/
set_option maxRecDepth 100000 in
theorem lifted (os : Os) (started : os.Started) (H : Type) (enc : TypeId × Value → H) :
    ReturnsInHanded {} Try.checked os 5 .any (Rows.fnSecurityPiecesTileTheTextSpec.pre6 enc Try.prog Try.f5 Rows.fnSecurityPiecesTileTheTextRow.domain false) (Rows.fnSecurityPiecesTileTheTextSpec.post enc Try.prog Try.f5 false true false false) := by
  refine returnsInHanded_of_change (C := Try.checked) own started (by kernel_rfl) Try.func5
    (ChangeSpec.witness6 (enc := enc) (C := Try.checked) false ⟨#[], #[.string ByteArray.empty, .slice none 0 0], []⟩ 8 (by kernel_rfl) (by kernel_rfl) (by kernel_rfl) (by kernel_rfl)) ?_
  intro W base args ds gs before hval0 hW hcnd _
  have hval : ∀ (j : Nat) t v, Try.f5.params[j]? = some t → args[j]? = some v → Value.okWide Try.prog W .any base t v := hval0
  have hW' := hW
  obtain ⟨p, q, hA0, hV, rfl, hfz, hnd⟩ := hW
  have hA : DataW.TrodAll enc Try.prog W 0 (fun _ => true) true Try.f5.params.toList args.toList ds p := hA0
  rw [Try.params5] at hA hval
  obtain ⟨v0, vs0, d0, ds0, p0, q0, hargs, rfl, rfl, h0, r0⟩ := trodAll_cons hA
  obtain ⟨v1, vs1, d1, ds1, p1, q1, rfl, rfl, rfl, h1, r1⟩ := trodAll_cons r0
  obtain ⟨rfl, rfl, rfl⟩ := trodAll_nil r1
  obtain rfl : args = #[v0, v1] := by cases args; simp_all
  obtain ⟨rfl, rfl⟩ := trodVars_none hV
  obtain ⟨a0, rfl, rfl, rfl, w0⟩ := open_string Try.underlying9 (hval 0 9 v0 rfl rfl) h0
  obtain ⟨a1, len1, cap1, rfl⟩ := okWide_slice Try.underlying25 (hval 1 25 v1 rfl rfl)
  have k1 := h1
  have lt1 : ∀ x ∈ p1, x.block < W.heap.size := by obtain ⟨m, hm⟩ := k1; exact DataW.trod_lt m _ _ _ hm
  obtain ⟨z1, w1⟩ : ∃ zs, IsRow .u32 W a1 len1 cap1 zs := by
    obtain ⟨fuel, hf⟩ := h1
    rcases open_ints Try.underlying25 Try.underlying27 (by kernel_rfl) hf with ⟨hcs, _⟩ | ⟨x, l, c, zs, hcs, _, hl, hm, hz, _, hcell, hwz⟩
    · simp [Value.cells] at hcs
      obtain ⟨rfl, rfl, rfl⟩ := hcs
      exact ⟨[], .inl ⟨rfl, rfl, rfl, rfl⟩⟩
    · simp [Value.cells] at hcs
      obtain ⟨rfl, rfl, rfl⟩ := hcs
      exact ⟨zs, .inr ⟨_, rfl, hl, hm, by simpa using hz, hcell, hwz⟩⟩
  clear hA0 hval0
  refine (walk a0 a1 len1 cap1 z1 W w0 w1).mono fun e W' ⟨he, bel⟩ => ?_
  subst he
  exact ⟨_, rfl, _, _, _, [], _, [], hW', trodAll_mk1 (shut_bool Try.underlying4 _), (trodAll_cons_mk (shut_string Try.underlying9 w0) (trodAll_cons_mk (Below.trod laidOut (by kernel_rfl) (of_decide_eq_true (by kernel_rfl)) k1 bel lt1) trodAll_mk0)), rfl, bel.frame _, fun h => by cases h⟩

theorem over : Rows.fnSecurityPiecesTileTheTextRow.holds Try.pinned (OpenSpec.ofChange Rows.fnSecurityPiecesTileTheTextSpec) :=
  OpenClaim.holds_of_wide 5 Try.f5 rfl rfl rfl rfl rfl rfl rfl ⟨rfl, rfl, rfl, rfl, rfl⟩ rfl rfl rfl rfl rfl (by kernel_rfl) Try.func5 (by kernel_rfl)
    (of_decide_eq_true (by kernel_rfl)) (by unfold Func.isWrapper; first | (rw [if_pos (by decide +kernel)]; kernel_rfl) | (rw [if_neg (by decide +kernel)]; exact ⟨rfl, rfl⟩))
    (fun os started H enc _ => lifted os started H enc)

/-- ████ THE STATEMENT ████ -/
theorem proved : Rows.FnSecurityPiecesTileTheTextSaid := over
end Go.Proofs.Qxb6601247a.fnSecurityPiecesTileTheText
