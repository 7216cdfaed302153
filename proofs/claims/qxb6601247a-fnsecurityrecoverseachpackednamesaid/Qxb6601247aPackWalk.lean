/-
  SEAT b6601247a: THE WALK OF 'FnSecurityRecoversEachPackedName'.
-/
import Derived.Test.Qxb6601247aPack
import Derived.Lib.SliceRun
import Derived.Laws.IdiomStrings
import Derived.Deep.RegionWith
namespace Go.Proofs.Qxb6601247a.PackWalk
open Go.ChangeShapes Go.WideShapes Go.ChangeAt Go.RowKit
open Sec Pack
set_option linter.unusedVariables false

theorem info5 : (Try.prog.info? 5).map (fun i => (i.zero, i.size, i.bytes)) = some (some (.int .u8 0), 1, 1) := by kernel_rfl
theorem info9 : (Try.prog.info? 9).map (fun i => (i.zero, i.size, i.bytes)) = some (some (.string ⟨#[]⟩), 1, 16) := by kernel_rfl
theorem info27 : (Try.prog.info? 27).map (fun i => (i.zero, i.size, i.bytes)) = some (some (.int .u32 0), 1, 4) := by kernel_rfl

/-- A byte's cell. -/
def bv (c : UInt8) : Value := .int .u8 (c.toNat : Int)

/-- The buffer's cells. -/
def bufCells (f : Nat → ByteArray) (k i : Nat) : List Value := (cat f k ++ (f k).data.toList.take i).map bv
/-- The ends' cells. -/
def endCells (f : Nat → ByteArray) (k : Nat) : List Value := (List.range k).map fun j => .int .u32 (tot f (j + 1) : Int)

theorem bufCells_byte (f : Nat → ByteArray) (k i : Nat) (hi : i < (f k).size) : bufCells f k (i + 1) = bufCells f k i ++ [bv (f k)[i]] := by
  unfold bufCells
  rw [List.take_succ_eq_append_getElem (by simpa using hi), ← List.append_assoc, List.map_append]
  rfl
theorem bufCells_next (f : Nat → ByteArray) (k : Nat) : bufCells f (k + 1) 0 = bufCells f k (f k).size := by
  unfold bufCells
  rw [List.take_zero, List.append_nil, List.take_of_length_le (by simp)]; rfl
theorem endCells_next (f : Nat → ByteArray) (k : Nat) : endCells f (k + 1) = endCells f k ++ [.int .u32 (tot f (k + 1) : Int)] := by
  unfold endCells
  rw [List.range_succ, List.map_append]; rfl

/-- THE STATE OF THE PACKING: the first 'k' names and 'i' bytes of the next lie in the buffer; 'k' ends are recorded; below nothing has turned. -/
structure Packing (base B2 B3 T n : Nat) (f : Nat → ByteArray) (k i : Nat) (wm wr : World) : Prop where
  buf : wr.ownsRow base 5 1 (.slice (some ⟨B2, 0, none⟩) (tot f k + i) T) (tot f k + i) (bufCells f k i)
  ends : wr.ownsRow base 27 1 (.slice (some ⟨B3, 0, none⟩) k n) k (endCells f k)
  bel : Below base wm wr
  low : base ≤ wm.heap.size
  ne : B2 ≠ B3

theorem Packing.byte {base B2 B3 T n : Nat} {f : Nat → ByteArray} {k i : Nat} {wm wr w1 : World} {o : Obj} (h : Packing base B2 B3 T n f k i wm wr) (hi : i < (f k).size)
    (hown : w1.ownsRow base 5 1 (.slice (some ⟨B2, 0, none⟩) (tot f k + i + 1) T) (tot f k + i + 1) (bufCells f k i ++ [bv (f k)[i]])) (hg : (wr.alloc o).grownBy w1 (some B2)) :
    Packing base B2 B3 T n f k (i + 1) wm w1 := by
  have hlow : base ≤ wr.heap.size := Nat.le_trans h.low h.bel.size
  have hb2 := (h.buf.lt B2 rfl).1
  have hb3 := (h.ends.lt B3 rfl).1
  refine ⟨?_, ?_, ?_, h.low, h.ne⟩
  · rw [bufCells_byte f k i hi]; exact hown
  · refine (h.ends.alloc o).kept hg (.inr ?_)
    show some B3 ≠ some B2
    intro e; injection e with e; exact h.ne e.symm
  · exact (h.bel.alloc hlow o).grown hg (by simp; omega) (fun j hj => by injection hj with hj; omega)

theorem Packing.mark {base B2 B3 T n : Nat} {f : Nat → ByteArray} {k : Nat} {wm wr w1 : World} {o : Obj} (h : Packing base B2 B3 T n f k (f k).size wm wr)
    (hown : w1.ownsRow base 27 1 (.slice (some ⟨B3, 0, none⟩) (k + 1) n) (k + 1) (endCells f k ++ [.int .u32 (tot f (k + 1) : Int)])) (hg : (wr.alloc o).grownBy w1 (some B3)) :
    Packing base B2 B3 T n f (k + 1) 0 wm w1 := by
  have hlow : base ≤ wr.heap.size := Nat.le_trans h.low h.bel.size
  have hb3 := (h.ends.lt B3 rfl).1
  refine ⟨?_, ?_, ?_, h.low, h.ne⟩
  · rw [bufCells_next]
    refine (h.buf.alloc o).kept hg (.inr ?_)
    show some B2 ≠ some B3
    intro e; injection e with e; exact h.ne e
  · rw [endCells_next]; exact hown
  · exact (h.bel.alloc hlow o).grown hg (by simp; omega) (fun j hj => by injection hj with hj; omega)

/-- 'string(buf)': the packed text. -/
theorem packed_conv {base B2 B3 T n : Nat} {f : Nat → ByteArray} {k : Nat} {wm wr : World} (h : Packing base B2 B3 T n f k 0 wm wr) :
    (convert 32 9 (.slice (some ⟨B2, 0, none⟩) (tot f k) T)).run Try.prog wr = .ok (.string (packed f k)) wr := by
  have hc := run_convert_bytes_back (P := Try.prog) wr 32 9 5 ⟨B2, 0, none⟩ T (cat f k) Try.underlying32 Try.underlying5 Try.underlying9 (fun j hj => ?_)
  · rw [cat_length] at hc; exact hc
  · rw [cat_length] at hj
    have hb := h.buf
    have hx := hb.cellAt j (by omega)
    rw [Go.WideShapes.add_plain, Nat.zero_add, hx]
    unfold bufCells
    rw [List.take_zero, List.append_nil, List.getElem?_map, List.getElem?_eq_getElem (by rw [cat_length]; exact hj)]
    rfl

theorem packed_ends {base B2 B3 T n : Nat} {f : Nat → ByteArray} {k : Nat} {wm wr : World} (h : Packing base B2 B3 T n f k 0 wm wr) :
    B3 < wr.heap.size ∧ ∀ i, i < k → wr.cell? ⟨B3, i, none⟩ = some (.int .u32 (tot f (i + 1) : Int)) := by
  refine ⟨(h.ends.lt B3 rfl).2, fun i hi => ?_⟩
  rw [h.ends.cellAt i (by omega)]
  unfold endCells
  rw [List.getElem?_map, List.getElem?_range hi]
  rfl

/-- Each name comes back, in whatever later world. -/
theorem sec_packed {base B2 B3 T : Nat} {f : Nat → ByteArray} {k : Nat} {wm wr : World} (h : Packing base B2 B3 T k f k 0 wm wr) (ht : tot f k ≤ 1048576) (hk : k ≤ 65536) :
    ∀ (v : World) (q : Nat), Below wr.heap.size wr v → q < k → Calls Try.prog 12 #[.string (packed f k), .slice (some ⟨B3, 0, none⟩) k k, .int .i64 (q : Int)] v fun r w' => r = .returned (.string (f q)) ∧ Below v.heap.size v w' := by
  intro v q hv hq
  obtain ⟨hlt, hc⟩ := packed_ends h
  have C := sec_any (packed f k) B3 0 k k q (fun i => tot f (i + 1)) v (by rw [packed_size]; exact ht) hq (by omega)
    (fun i hi => by rw [Nat.zero_add, hv.cell (by exact hlt)]; exact hc i hi) (by rw [before_tot]; exact tot_le f (by omega)) (by rw [packed_size]; exact tot_le f hq)
  rw [before_tot] at C
  rw [packed_piece f hq] at C
  exact C

/-- The names are too many. -/
theorem walk_big (a : Option Addr) (len cap : Nat) (f : Nat → ByteArray) (w : World) (hm : len ≤ maxLen) (hf : ∀ i, i < len → (f i).size ≤ maxLen) (h : 1048576 < len + tot f len ∨ 65536 < len ∨ 1048576 < 16 * len + tot f len) (HC : Hid (Names w a len f)) :
    Calls Try.prog 6 #[.slice a len cap] w fun e w' => e = .returned (.bool true) ∧ w' = w := by
  by_cases h1 : 1048576 < len + tot f len
  · have C := hide (bytes_no a len cap f w hm hf h1 HC)
    clear h HC hm hf h1
    go_enter Try.func6, Try.ntmps6
    go_wp2_with (go_at_call 13; refine C.out.mono ?_; rintro e w' ⟨rfl, rfl⟩)
    go_ret
    exact ⟨rfl, rfl⟩
  · have h2 : 65536 < len ∨ 1048576 < 16 * len + tot f len := by rcases h with h | h; omega; exact h
    have C := hide (bytes_yes a len cap f w (by omega) HC)
    have C2 := hide (big_yes a len cap f w (by omega) h2 HC)
    clear h HC hm hf h1 h2
    go_enter Try.func6, Try.ntmps6
    go_wp2_with (first | (go_at_call 13; refine C.out.mono ?_; rintro e w' ⟨rfl, hw⟩; replace hw := hw.symm; subst hw) | (go_at_call 14; refine C2.out.mono ?_; rintro e w' ⟨rfl, rfl⟩))
    go_ret
    exact ⟨rfl, rfl⟩

set_option maxHeartbeats 1600000 in
theorem walk_some (x : Addr) (len cap : Nat) (f : Nat → ByteArray) (w : World) (h1 : len ≤ 65536) (h : 16 * len + tot f len ≤ 1048576) (HC : Hid (Names w (some x) len f)) :
    Calls Try.prog 6 #[.slice (some x) len cap] w fun e w' => e = .returned (.bool true) ∧ Below w.heap.size w w' := by
  obtain ⟨i9, hi9, hz90, hz91, hz92⟩ := info_parts info9
  have q30 : ∀ (w : World) (a : Option Addr) (n c n' c' : Nat), (binOp .eql 30 (.slice a n c) (.slice none n' c')).run Try.prog w = .ok (.bool a.isNone) w := fun w a n c n' c' => Lib.run_eql_slice_nil w 30 9 a n c n' c' Try.underlying30
  have hmb9 : i9.bytes * len ≤ 281474976710656 := by rw [hz92]; omega
  have hml : len ≤ maxLen := by unfold maxLen; omega
  have C := hide (bytes_yes (some x) len cap f w (by omega) HC)
  have C2 := hide (big_no (some x) len cap f w h1 h HC)
  go_enter Try.func6, Try.ntmps6
  go_wp2_with (first | (go_at_call 13; refine C.out.mono ?_; rintro e w' ⟨rfl, hw⟩; replace hw := hw.symm; subst hw) | (go_at_call 14; refine C2.out.mono ?_; rintro e w' ⟨rfl, hw⟩; replace hw := hw.symm; subst hw) | (at_make; refine wpList_make_full _ rfl _ _ 30 rfl w.heap.size 9 i9 (.string ⟨#[]⟩) 1 Try.underlying30 hi9 hz90 hz91 _ _ _ _ len rfl rfl rfl rfl hmb9 hml (Nat.le_refl _) ?_; intro w1 hown hgrow))
  have hst : Filled w.heap.size len 9 (fun i => .string (f i)) 0 w w1 := ⟨⟨_, hown, fun i hi => by omega⟩, (Below.refl _ _).grown hgrow (Nat.le_refl _) (fun k hk => by simp at hk)⟩
  clear hown hgrow C C2 hi9 hz90 hz91 hz92 hmb9
  go_loopw [4] (fun i wr => ∃ m : Nat, m ≤ len ∧ i = .int .i64 m ∧ Hid (Filled w.heap.size len 9 (fun i => .string (f i)) m w wr)) (fun i _ => len - (intOf i).toNat)
  case atStart => exact ⟨0, Nat.zero_le _, rfl, hst⟩
  case round =>
    obtain ⟨m, hm, rfl, HR⟩ := hrel
    clear hst
    by_cases hlt : m < len
    · obtain ⟨⟨v, hv⟩, hf⟩ := filled_cell HR.out hlt
      obtain ⟨b, off, e, hb, hc⟩ := HC.out (by omega)
      obtain rfl : x = ⟨b, off, none⟩ := by injection e
      have hck : wr.cell? ⟨b, off + m, none⟩ = some (.string (f m)) := (HR.out.2.cell (by exact hb)).trans (hc m hlt)
      have HR' := hide (filled_step HR.out hlt)
      clear HR hc e
      go_wp2
      go_roundw
      case rel => exact ⟨m + 1, by omega, by go_num, HR'⟩
      case measure => simp [intOf]; omega
    · obtain rfl : m = len := by omega
      obtain ⟨hcell, hbel, hlt2⟩ := filled_all HR.out
      have HCm := hide hcell
      have HBm := hide hbel
      clear hcell hbel HR hlt
      obtain ⟨wm, rfl⟩ : ∃ wm : World, wm = wr := ⟨_, rfl⟩
      go_wp2
      go_loop [5, 6] (fun t i => ∃ k : Nat, k ≤ m ∧ i = .int .i64 k ∧ t = .int .i64 (tot f k : Int)) (fun _ i => m - (intOf i).toNat)
      case atStart => exact ⟨0, Nat.zero_le _, rfl, rfl⟩
      case round =>
        obtain ⟨k, hk, rfl, rfl⟩ := hrel
        by_cases hlt : k < m
        · have hck := HCm.out k hlt
          have h2 := tot_step f hlt
          have HT : Hid (tot f (k + 1) = tot f k + (f k).size) := rfl
          go_wp2
          go_round
          case rel => exact ⟨k + 1, by omega, by go_num, by rw [HT.out]; go_num⟩
          case measure => simp [intOf]; omega
        · obtain rfl : k = m := by omega
          obtain ⟨i5, hi5, hz50, hz51, hz52⟩ := info_parts info5
          obtain ⟨i27, hi27, hz270, hz271, hz272⟩ := info_parts info27
          have hmb5 : i5.bytes * tot f k ≤ 281474976710656 := by rw [hz52]; omega
          have hmb27 : i27.bytes * k ≤ 281474976710656 := by rw [hz272]; omega
          have hml5 : tot f k ≤ maxLen := by unfold maxLen; omega
          go_wp2_with (first | (at_make; refine wpList_make_own _ rfl _ _ 32 rfl wm.heap.size 5 i5 (.int .u8 0) 1 Try.underlying32 hi5 hz50 hz51 _ _ _ (tot f k) rfl rfl rfl hmb5 hml5 (Nat.le_refl _) ?_; intro w2 hown2 hgrow2) | (at_make; refine wpList_make_own _ rfl _ _ 25 rfl wm.heap.size 27 i27 (.int .u32 0) 1 Try.underlying25 hi27 hz270 hz271 _ _ _ k rfl rfl rfl hmb27 hml hgrow2.size ?_; intro w3 hown3 hgrow3))
          have hst : Hid (Packing wm.heap.size wm.heap.size w2.heap.size (tot f k) k f 0 0 wm w3) := by
            have hl2 : wm.heap.size < w2.heap.size := (hown2.lt _ rfl).2
            refine ⟨hown2.kept hgrow3 (.inr (by simp [Value.ownBlock])), hown3, ((Below.refl _ _).grown hgrow2 (Nat.le_refl _) (fun k hk => by simp at hk)).grown hgrow3 hgrow2.size (fun k hk => by simp at hk), Nat.le_refl _, by omega⟩
          clear hown2 hgrow2 hown3 hgrow3 hmb5 hmb27 hml5 hlt
          go_loopw [7, 8, 9] (fun vb ve i wr => ∃ j : Nat, j ≤ k ∧ i = .int .i64 j ∧ vb = .slice (some ⟨wm.heap.size, 0, none⟩) (tot f j) (tot f k) ∧ ve = .slice (some ⟨w2.heap.size, 0, none⟩) j k ∧ Hid (Packing wm.heap.size wm.heap.size w2.heap.size (tot f k) k f j 0 wm wr)) (fun _ _ i _ => k - (intOf i).toNat)
          case atStart => exact ⟨0, Nat.zero_le _, rfl, rfl, rfl, hst⟩
          case round =>
            obtain ⟨j, hj, rfl, rfl, rfl, HP⟩ := hrel
            clear hst
            obtain ⟨wo, rfl⟩ : ∃ wo : World, wo = wr := ⟨_, rfl⟩
            by_cases hlt : j < k
            · have hcj : wo.cell? ⟨w.heap.size, j, none⟩ = some (.string (f j)) := (HP.out.bel.cell (by exact hlt2)).trans (HCm.out j hlt)
              have h2 := tot_step f hlt
              go_wp2
              go_loopw [7, 11] (fun vb i wr => ∃ q : Nat, q ≤ (f j).size ∧ i = .int .i64 q ∧ vb = .slice (some ⟨wm.heap.size, 0, none⟩) (tot f j + q) (tot f k) ∧ Hid (Packing wm.heap.size wm.heap.size w2.heap.size (tot f k) k f j q wm wr)) (fun _ i _ => (f j).size - (intOf i).toNat)
              case atStart => exact ⟨0, Nat.zero_le _, rfl, rfl, HP⟩
              case round =>
                obtain ⟨q, hq, rfl, rfl, HQ⟩ := hrel
                clear HP hcj
                by_cases hlt3 : q < (f j).size
                · have hown := HQ.out.buf
                  have hfit : tot f j + q + 1 ≤ tot f k := by omega
                  go_wp2_with (at_builtin; refine wpList_append_fits _ rfl _ _ 32 rfl wm.heap.size 5 i5 1 Try.underlying32 hi5 hz51 wm.heap.size (tot f j + q) (tot f k) _ rfl (hown.alloc _) ⟨wr.heap.size, 0, none⟩ 1 1 [bv (f j)[q]] rfl rfl ?c1 ?c2 hfit ?_)
                  case c1 => intro jj u hu; match jj, hu with | 0, hu => simp at hu; subst hu; simp [Addr.add, bv] | n + 1, hu => simp at hu
                  case c2 => intro u hu; simp at hu; subst hu; rfl
                  · intro w4 hown4 hgrow4
                    have HQ' := hide (HQ.out.byte hlt3 hown4 hgrow4)
                    clear hown4 hgrow4 hown HQ
                    go_wp2
                    go_roundw
                    case rel => exact ⟨q + 1, by omega, by go_num, rfl, HQ'⟩
                    case measure => simp [intOf]; omega
                · obtain rfl : q = (f j).size := by omega
                  have hown := HQ.out.ends
                  have hfit : j + 1 ≤ k := by omega
                  go_wp2_with (at_builtin; refine wpList_append_fits _ rfl _ _ 25 rfl wm.heap.size 27 i27 1 Try.underlying25 hi27 hz271 w2.heap.size j k _ rfl (hown.alloc _) ⟨wr.heap.size, 0, none⟩ 1 1 [.int .u32 (tot f (j + 1) : Int)] rfl rfl ?c3 ?c4 hfit ?_)
                  case c3 => intro jj u hu; match jj, hu with | 0, hu => simp at hu; subst hu; simp [Addr.add, tot] | n + 1, hu => simp at hu
                  case c4 => intro u hu; simp at hu; subst hu; rfl
                  · intro w4 hown4 hgrow4
                    have HQ' := hide (HQ.out.mark hown4 hgrow4)
                    clear hown4 hgrow4 hown HQ
                    go_wp2
                    go_roundw
                    case rel => exact ⟨j + 1, by omega, by go_num, rfl, rfl, HQ'⟩
                    case measure => simp [intOf]; omega
            · obtain rfl : j = k := by omega
              have hcv := packed_conv HP.out
              have CS : Hid (∀ (v : World) (q : Nat), Below wo.heap.size wo v → q < j → Calls Try.prog 12 #[.string (packed f j), .slice (some ⟨w2.heap.size, 0, none⟩) j j, .int .i64 (q : Int)] v fun r w' => r = .returned (.string (f q)) ∧ Below v.heap.size v w') := sec_packed HP.out (by omega) h1
              have HN : Hid (∀ i, i < j → wo.cell? ⟨w.heap.size, i, none⟩ = some (.string (f i))) := fun i hi => (HP.out.bel.cell (by exact hlt2)).trans (HCm.out i hi)
              have hlt4 : w.heap.size < wo.heap.size := Nat.lt_of_lt_of_le hlt2 HP.out.bel.size
              have HB4 : Hid (Below w.heap.size w wo) := HBm.out.trans (HP.out.bel.mono (by omega))
              clear HCm HBm HC
              go_wp2
              clear HP hcv
              go_loopw [13] (fun i wr => ∃ q : Nat, q ≤ j ∧ i = .int .i64 q ∧ Hid (Below wo.heap.size wo wr)) (fun i _ => j - (intOf i).toNat)
              case atStart => exact ⟨0, Nat.zero_le _, rfl, Below.refl _ _⟩
              case round =>
                obtain ⟨q, hq, rfl, HR⟩ := hrel
                by_cases hlt5 : q < j
                · have hcq : ∀ v, Below wo.heap.size wo v → v.cell? ⟨w.heap.size, q, none⟩ = some (.string (f q)) := fun v hv => (hv.cell (by exact hlt4)).trans (HN.out q hlt5)
                  have Hcq := hide hcq
                  have hc0 := hcq wr HR.out
                  clear hcq
                  have hqj : (q : Int) < (j : Int) := by omega
                  go_wp2
                  go_region_with (go_at_call 12; refine (CS.out _ q (by exact HR.out.drew) hlt5).mono ?_; rintro e w5 ⟨rfl, hb5⟩; have hc5 := Hcq.out w5 (HR.out.drew.trans (hb5.mono HR.out.size)))
                  all_goals
                    have HR' : Hid (Below wo.heap.size wo w5) := HR.out.drew.trans (hb5.mono HR.out.size)
                    clear hb5
                    go_wp2
                    go_roundw
                    case rel => exact ⟨q + 1, by omega, by go_num, HR'⟩
                    case measure => simp [intOf]; omega
                · go_wp2
                  go_ret
                  exact ⟨rfl, HB4.out.trans (HR.out.mono (by omega))⟩

set_option maxHeartbeats 1600000 in
/-- No names: nil. -/
theorem walk_nil (w : World) :
    Calls Try.prog 6 #[.slice none 0 0] w fun e w' => e = .returned (.bool true) ∧ Below w.heap.size w w' := by
  obtain ⟨i9, hi9, hz90, hz91, hz92⟩ := info_parts info9
  obtain ⟨i5, hi5, hz50, hz51, hz52⟩ := info_parts info5
  obtain ⟨i27, hi27, hz270, hz271, hz272⟩ := info_parts info27
  have q30 : ∀ (w : World) (a : Option Addr) (n c n' c' : Nat), (binOp .eql 30 (.slice a n c) (.slice none n' c')).run Try.prog w = .ok (.bool a.isNone) w := fun w a n c n' c' => Lib.run_eql_slice_nil w 30 9 a n c n' c' Try.underlying30
  have hmb9 : i9.bytes * 0 ≤ 281474976710656 := by rw [hz92]; omega
  have hmb5 : i5.bytes * 0 ≤ 281474976710656 := by rw [hz52]; omega
  have hmb27 : i27.bytes * 0 ≤ 281474976710656 := by rw [hz272]; omega
  have hml : 0 ≤ maxLen := Nat.zero_le _
  have hcv : ∀ (B : Nat) (w : World), (convert 32 9 (.slice (some ⟨B, 0, none⟩) 0 0)).run Try.prog w = .ok (.string ⟨#[]⟩) w := fun B w =>
    run_convert_bytes_back (P := Try.prog) w 32 9 5 ⟨B, 0, none⟩ 0 [] Try.underlying32 Try.underlying5 Try.underlying9 (fun j hj => absurd hj (by simp))
  have HC : Hid (Names w none 0 (fun _ => ⟨#[]⟩)) := fun h => absurd h (by omega)
  have C := hide (bytes_yes none 0 0 (fun _ => ⟨#[]⟩) w (by simp [tot]) HC)
  have C2 := hide (big_no none 0 0 (fun _ => ⟨#[]⟩) w (by omega) (by simp [tot]) HC)
  clear HC
  go_enter Try.func6, Try.ntmps6
  go_wp2_with (first | (go_at_call 13; refine C.out.mono ?_; rintro e w' ⟨rfl, hw⟩; replace hw := hw.symm; subst hw) | (go_at_call 14; refine C2.out.mono ?_; rintro e w' ⟨rfl, hw⟩; replace hw := hw.symm; subst hw) | (at_make; refine wpList_make_full _ rfl _ _ 30 rfl w.heap.size 9 i9 (.string ⟨#[]⟩) 1 Try.underlying30 hi9 hz90 hz91 _ _ _ _ 0 rfl rfl rfl rfl hmb9 hml (Nat.le_refl _) ?_; intro w1 hown hgrow))
  have HB1 : Hid (Below w.heap.size w w1) := (Below.refl _ _).grown hgrow (Nat.le_refl _) (fun k hk => by simp at hk)
  clear hown hgrow C C2
  refine wp_loop_rounds 1 ?_
  rw [rounds_succ]
  go_wp2
  refine wp_loop_rounds 1 ?_
  rw [rounds_succ]
  go_wp2_with (first | (at_make; refine wpList_make_own _ rfl _ _ 32 rfl w1.heap.size 5 i5 (.int .u8 0) 1 Try.underlying32 hi5 hz50 hz51 _ _ _ 0 rfl rfl rfl hmb5 hml (Nat.le_refl _) ?_; intro w2 hown2 hgrow2) | (at_make; refine wpList_make_own _ rfl _ _ 25 rfl w1.heap.size 27 i27 (.int .u32 0) 1 Try.underlying25 hi27 hz270 hz271 _ _ _ 0 rfl rfl rfl hmb27 hml hgrow2.size ?_; intro w3 hown3 hgrow3))
  have HB3 : Hid (Below w.heap.size w w3) := by
    have hs := HB1.out.size
    exact (HB1.out.grown hgrow2 hs (fun k hk => by simp at hk)).grown hgrow3 (Nat.le_trans hs hgrow2.size) (fun k hk => by simp at hk)
  clear hown2 hgrow2 hown3 hgrow3
  refine wp_loop_rounds 1 ?_
  rw [rounds_succ]
  go_wp2
  refine wp_loop_rounds 1 ?_
  rw [rounds_succ]
  go_wp2
  go_ret
  exact ⟨rfl, HB3.out⟩

/-- THE WALK: the Go text returns true, and writes nothing that was there. -/
theorem walk (a : Option Addr) (len cap : Nat) (f : Nat → ByteArray) (w : World) (hm : len ≤ maxLen) (hf : ∀ i, i < len → (f i).size ≤ maxLen) (hnil : a = none → len = 0 ∧ cap = 0) (HC : Names w a len f) :
    Calls Try.prog 6 #[.slice a len cap] w fun e w' => e = .returned (.bool true) ∧ Below w.heap.size w w' := by
  by_cases h : 1048576 < len + tot f len ∨ 65536 < len ∨ 1048576 < 16 * len + tot f len
  · refine (walk_big a len cap f w hm hf h HC).mono ?_
    rintro e w' ⟨rfl, rfl⟩
    exact ⟨rfl, Below.refl _ _⟩
  · cases a with
    | none =>
      obtain ⟨rfl, rfl⟩ := hnil rfl
      exact walk_nil w
    | some x => exact walk_some x len cap f w (by omega) (by omega) HC

end Go.Proofs.Qxb6601247a.PackWalk
