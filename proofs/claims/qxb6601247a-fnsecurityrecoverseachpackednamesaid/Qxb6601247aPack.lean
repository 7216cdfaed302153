/-
  SEAT b6601247a: NAMES PACKED ONE AFTER ANOTHER: the plain law; the walks of 'zzBytes_FnSecurityRecoversEachPackedName' and 'zzNamesTooBig'.
-/
import Derived.Test.Qxb6601247aSec
namespace Go.Proofs.Qxb6601247a.Pack
open Go.ChangeShapes Go.WideShapes Go.ChangeAt Go.RowKit
open Sec
set_option linter.unusedVariables false

/-- The bytes of the first 'k' names together. -/
def tot (f : Nat → ByteArray) : Nat → Nat
  | 0 => 0
  | k + 1 => tot f k + (f k).size

/-- The first 'k' names, one after another. -/
def cat (f : Nat → ByteArray) : Nat → List UInt8
  | 0 => []
  | k + 1 => cat f k ++ (f k).data.toList

theorem cat_length (f : Nat → ByteArray) (k : Nat) : (cat f k).length = tot f k := by
  induction k with
  | zero => rfl
  | succ k ih => simp [cat, tot, ih]

theorem tot_mono (f : Nat → ByteArray) (j d : Nat) : tot f j ≤ tot f (j + d) := by
  induction d with
  | zero => exact Nat.le_refl _
  | succ d ih => exact Nat.le_trans ih (by show tot f (j + d) ≤ tot f (j + d) + _; omega)

theorem tot_le (f : Nat → ByteArray) {j n : Nat} (h : j ≤ n) : tot f j ≤ tot f n := by
  obtain ⟨d, rfl⟩ : ∃ d, n = j + d := ⟨n - j, by omega⟩
  exact tot_mono f j d

theorem tot_step (f : Nat → ByteArray) {j n : Nat} (h : j < n) : tot f j + (f j).size ≤ tot f n := tot_le f (show j + 1 ≤ n from h)

theorem cat_split (f : Nat → ByteArray) (j d : Nat) : ∃ r, cat f (j + 1 + d) = cat f j ++ (f j).data.toList ++ r := by
  induction d with
  | zero => exact ⟨[], by simp [cat]⟩
  | succ d ih =>
    obtain ⟨r, hr⟩ := ih
    exact ⟨r ++ (f (j + 1 + d)).data.toList, by show cat f (j + 1 + d) ++ _ = _; rw [hr]; simp⟩

/-- The packed text. -/
def packed (f : Nat → ByteArray) (n : Nat) : ByteArray := ⟨(cat f n).toArray⟩

theorem packed_size (f : Nat → ByteArray) (n : Nat) : (packed f n).size = tot f n := by
  show (cat f n).toArray.size = _
  rw [List.size_toArray, cat_length]

/-- EACH NAME COMES BACK. -/
theorem packed_piece (f : Nat → ByteArray) {j n : Nat} (h : j < n) : (packed f n).extract (tot f j) (tot f (j + 1)) = f j := by
  obtain ⟨d, rfl⟩ : ∃ d, n = j + 1 + d := ⟨n - (j + 1), by omega⟩
  obtain ⟨r, hr⟩ := cat_split f j d
  apply ByteArray.ext
  rw [ByteArray.data_extract]
  show (cat f (j + 1 + d)).toArray.extract (tot f j) (tot f (j + 1)) = _
  rw [hr]
  apply Array.ext'
  rw [Array.toList_extract, List.extract_eq_take_drop]
  have e : tot f (j + 1) - tot f j = (f j).data.toList.length := by simp [tot]
  rw [e, List.append_assoc]
  rw [List.drop_append_of_le_length (by rw [cat_length]; exact Nat.le_refl _), List.drop_eq_nil_of_le (by rw [cat_length]; exact Nat.le_refl _)]
  simp

theorem before_tot (f : Nat → ByteArray) (j : Nat) : before (fun i => tot f (i + 1)) j = tot f j := by
  cases j <;> rfl

/-- What is known of the names: their cells. -/
def Names (w : World) (a : Option Addr) (len : Nat) (f : Nat → ByteArray) : Prop :=
  0 < len → ∃ b off, a = some ⟨b, off, none⟩ ∧ b < w.heap.size ∧ ∀ i, i < len → w.cell? ⟨b, off + i, none⟩ = some (.string (f i))

set_option maxHeartbeats 800000 in
theorem bytes_yes (a : Option Addr) (len cap : Nat) (f : Nat → ByteArray) (w : World) (h : len + tot f len ≤ 1048576) (HC : Hid (Names w a len f)) :
    Calls Try.prog 13 #[.slice a len cap] w fun e w' => e = .returned (.bool true) ∧ w' = w := by
  go_enter Try.func13, Try.ntmps13
  go_wp2
  go_loop [3, 4] (fun t i => ∃ k : Nat, k ≤ len ∧ i = .int .i64 k ∧ t = .int .i64 ((len : Int) + (tot f k : Int))) (fun _ i => len - (intOf i).toNat)
  case atStart => exact ⟨0, Nat.zero_le _, rfl, by go_num⟩
  case round =>
    obtain ⟨k, hk, rfl, rfl⟩ := hrel
    by_cases hlt : k < len
    · obtain ⟨b, off, rfl, hb, hc⟩ := HC.out (by omega)
      have hck := hc k hlt
      have h1 := tot_step f hlt
      have HT : Hid (tot f (k + 1) = tot f k + (f k).size) := rfl
      clear hc
      go_wp2
      go_round
      case rel => exact ⟨k + 1, by omega, by go_num, by rw [HT.out]; go_num⟩
      case measure => simp [intOf]; omega
    · go_wp2
      go_ret
      exact ⟨rfl, rfl⟩

set_option maxHeartbeats 800000 in
theorem bytes_no (a : Option Addr) (len cap : Nat) (f : Nat → ByteArray) (w : World) (hm : len ≤ maxLen) (hf : ∀ i, i < len → (f i).size ≤ maxLen) (h : 1048576 < len + tot f len) (HC : Hid (Names w a len f)) :
    Calls Try.prog 13 #[.slice a len cap] w fun e w' => e = .returned (.bool false) ∧ w' = w := by
  unfold maxLen at hm hf
  by_cases h1 : 1048576 < len
  · clear h hf
    go_enter Try.func13, Try.ntmps13
    go_wp2
    go_ret
    exact ⟨rfl, rfl⟩
  have HF := hide hf
  have HH := hide h
  clear hf h
  go_enter Try.func13, Try.ntmps13
  go_wp2
  go_loop [3, 4] (fun t i => ∃ k : Nat, k ≤ len ∧ len + tot f k ≤ 1048576 ∧ i = .int .i64 k ∧ t = .int .i64 ((len : Int) + (tot f k : Int))) (fun _ i => len - (intOf i).toNat)
  case atStart => exact ⟨0, Nat.zero_le _, by show len + 0 ≤ _; omega, rfl, by go_num⟩
  case round =>
    obtain ⟨k, hk, hs, rfl, rfl⟩ := hrel
    by_cases hlt : k < len
    · obtain ⟨b, off, rfl, hb, hc⟩ := HC.out (by omega)
      have hck := hc k hlt
      have hfk := HF.out k hlt
      have HT : Hid (tot f (k + 1) = tot f k + (f k).size) := rfl
      clear hc
      by_cases h2 : 1048576 < (f k).size
      · go_wp2
        go_ret
        exact ⟨rfl, rfl⟩
      · by_cases h3 : 1048576 < len + tot f k + (f k).size
        · go_wp2
          go_ret
          exact ⟨rfl, rfl⟩
        · go_wp2
          go_round
          case rel => exact ⟨k + 1, by omega, by rw [HT.out]; omega, by go_num, by rw [HT.out]; go_num⟩
          case measure => simp [intOf]; omega
    · have := HH.out
      obtain rfl : k = len := by omega
      omega

set_option maxHeartbeats 800000 in
theorem big_no (a : Option Addr) (len cap : Nat) (f : Nat → ByteArray) (w : World) (h1 : len ≤ 65536) (h : 16 * len + tot f len ≤ 1048576) (HC : Hid (Names w a len f)) :
    Calls Try.prog 14 #[.slice a len cap] w fun e w' => e = .returned (.bool false) ∧ w' = w := by
  go_enter Try.func14, Try.ntmps14
  go_wp2
  go_loop [3, 4] (fun t i => ∃ k : Nat, k ≤ len ∧ i = .int .i64 k ∧ t = .int .i64 (16 * (len : Int) + (tot f k : Int))) (fun _ i => len - (intOf i).toNat)
  case atStart => exact ⟨0, Nat.zero_le _, rfl, by show _ = Value.int .i64 (16 * (len : Int) + 0); go_num⟩
  case round =>
    obtain ⟨k, hk, rfl, rfl⟩ := hrel
    by_cases hlt : k < len
    · obtain ⟨b, off, rfl, hb, hc⟩ := HC.out (by omega)
      have hck := hc k hlt
      have h1 := tot_step f hlt
      have HT : Hid (tot f (k + 1) = tot f k + (f k).size) := rfl
      clear hc
      go_wp2
      go_round
      case rel => exact ⟨k + 1, by omega, by go_num, by rw [HT.out]; go_num⟩
      case measure => simp [intOf]; omega
    · obtain rfl : k = len := by omega
      have d1 : decide ((1048576 : Int) < 16 * (k : Int) + (tot f k : Int)) = false := decide_eq_false (by omega)
      go_wp2
      go_ret
      exact ⟨rfl, rfl⟩

set_option maxHeartbeats 800000 in
theorem big_yes (a : Option Addr) (len cap : Nat) (f : Nat → ByteArray) (w : World) (hb : len + tot f len ≤ 1048576) (h : 65536 < len ∨ 1048576 < 16 * len + tot f len) (HC : Hid (Names w a len f)) :
    Calls Try.prog 14 #[.slice a len cap] w fun e w' => e = .returned (.bool true) ∧ w' = w := by
  by_cases h1 : 65536 < len
  · clear h
    go_enter Try.func14, Try.ntmps14
    go_wp2
    go_ret
    exact ⟨rfl, rfl⟩
  have HH : Hid (1048576 < 16 * len + tot f len) := by rcases h with h | h; omega; exact h
  clear h
  go_enter Try.func14, Try.ntmps14
  go_wp2
  go_loop [3, 4] (fun t i => ∃ k : Nat, k ≤ len ∧ i = .int .i64 k ∧ t = .int .i64 (16 * (len : Int) + (tot f k : Int))) (fun _ i => len - (intOf i).toNat)
  case atStart => exact ⟨0, Nat.zero_le _, rfl, by show _ = Value.int .i64 (16 * (len : Int) + 0); go_num⟩
  case round =>
    obtain ⟨k, hk, rfl, rfl⟩ := hrel
    by_cases hlt : k < len
    · obtain ⟨b, off, rfl, hb2, hc⟩ := HC.out (by omega)
      have hck := hc k hlt
      have h2 := tot_step f hlt
      have HT : Hid (tot f (k + 1) = tot f k + (f k).size) := rfl
      clear hc
      by_cases h3 : 1048576 < 16 * len + tot f k + (f k).size
      · go_wp2
        go_ret
        exact ⟨rfl, rfl⟩
      · go_wp2
        go_round
        case rel => exact ⟨k + 1, by omega, by go_num, by rw [HT.out]; go_num⟩
        case measure => simp [intOf]; omega
    · obtain rfl : k = len := by omega
      have d1 : decide ((1048576 : Int) < 16 * (k : Int) + (tot f k : Int)) = true := decide_eq_true (by have := HH.out; omega)
      go_wp2
      go_ret
      exact ⟨rfl, rfl⟩

end Go.Proofs.Qxb6601247a.Pack
