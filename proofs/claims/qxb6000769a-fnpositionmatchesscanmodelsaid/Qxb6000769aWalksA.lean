import Derived.Test.Qxb6000769aRows
import Derived.Test.Qxb6000769aPlain
import Derived.WalkKit
import Derived.WalkSpells
import Derived.WalkLawsBesides
import Derived.Shelf.Bytes.SlCountOne
import Derived.Lib.SlBytesConst
import Derived.Lib.Walk
namespace Go.Proofs.Qxb6000769a
open Go.RowKit

set_option maxHeartbeats 400000 in
theorem bytes_ok (a : Option Addr) (n c : Nat) (off : Int) (w : World) (hn : n ≤ 1048576) :
    Calls Try.prog 16 #[.slice a n c, .int .i64 off] w fun e w' => e = .returned (.bool true) ∧ w' = w := by
  go_enter Try.func16, Try.ntmps16
  go_wp2
  go_ret
  exact ⟨rfl, rfl⟩

set_option maxHeartbeats 400000 in
theorem bytes_no (a : Option Addr) (n c : Nat) (off : Int) (w : World) (hn : 1048576 < n) :
    Calls Try.prog 16 #[.slice a n c, .int .i64 off] w fun e w' => e = .returned (.bool false) ∧ w' = w := by
  go_enter Try.func16, Try.ntmps16
  go_wp2
  go_ret
  exact ⟨rfl, rfl⟩

set_option maxHeartbeats 400000 in
theorem last_nil (w : World) :
    Calls Try.prog 30 #[.slice none 0 0, .int .u8 10] w fun e w' => e = .returned (.int .i64 (-1)) ∧ w' = w := by
  go_enter Try.func30, Try.ntmps30
  go_wp2
  go_loop [5] (fun i => i = .int .i64 (-1)) (fun _ => 0)
  case atStart => rfl
  case round =>
    obtain rfl := hrel
    go_wp2
    go_ret
    exact ⟨rfl, rfl⟩

set_option maxHeartbeats 400000 in
theorem last_any (b n c : Nat) (xs : List Int) (w : World) (hn : n ≤ 1048576)
    (hc : ∀ i, i < n → w.cell? ⟨b, i, none⟩ = some (.int .u8 (xs.getD i 0))) :
    Calls Try.prog 30 #[.slice (some ⟨b, 0, none⟩) n c, .int .u8 10] w fun e w' => e = .returned (.int .i64 (lastN xs n)) ∧ w' = w := by
  have HC : Hid (∀ i, i < n → w.cell? ⟨b, i, none⟩ = some (.int .u8 (xs.getD i 0))) := hc
  clear hc
  go_enter Try.func30, Try.ntmps30
  go_wp2
  go_loop [5] (fun i => ∃ k : Nat, k ≤ n ∧ i = .int .i64 ((k : Int) - 1) ∧ lastN xs n = lastN xs k) (fun i => (intOf i + 1).toNat)
  case atStart => exact ⟨n, Nat.le_refl _, rfl, rfl⟩
  case round =>
    obtain ⟨k, hk, rfl, hl⟩ := hrel
    have HL : Hid (lastN xs n = lastN xs k) := hl
    clear hl
    cases k with
    | zero =>
      go_wp2
      go_ret
      exact ⟨by rw [HL.out]; rfl, rfl⟩
    | succ k =>
      have g := HC.out k (by omega)
      obtain ⟨v, hv⟩ : ∃ v, v = xs.getD k 0 := ⟨_, rfl⟩
      rw [← hv] at g
      have HV : Hid (v = xs.getD k 0) := hv
      clear hv
      have e1 : ((k + 1 : Nat) : Int) - 1 = (k : Int) := by omega
      by_cases h10 : v = 10
      · have t1 : (v == 10) = true := by simp [h10]
        have H10 : Hid (v = 10) := h10
        clear h10
        go_wp2
        go_ret
        exact ⟨by rw [HL.out, lastN_yes (HV.out ▸ H10.out)]; go_num, rfl⟩
      · have t1 : (v == 10) = false := by simp [h10]
        have H10 : Hid (v ≠ 10) := h10
        clear h10
        go_wp2
        exact ⟨⟨k, by omega, by go_num, by rw [HL.out, lastN_no (HV.out ▸ H10.out)]⟩, by simp [intOf]⟩

set_option maxHeartbeats 400000 in
theorem count_any (b n c q : Nat) (xs : List Int) (w : World) (hx : xs.length = n)
    (hc : ∀ i, i < n → w.cell? ⟨b, 0 + i, none⟩ = some (.int .u8 (xs.getD i 0))) (hq : w.cell? ⟨q, 0, none⟩ = some (.int .u8 10)) :
    Calls Try.prog 25 #[.slice (some ⟨b, 0, none⟩) n c, .slice (some ⟨q, 0, none⟩) 1 1] w fun e w' => e = .returned (.int .i64 (Lib.countByte (Lib.bytesOf xs) (10 : Int).toNat.toUInt8)) ∧ w' = w := by
  have HC : Hid (∀ i, i < n → w.cell? ⟨b, 0 + i, none⟩ = some (.int .u8 (xs.getD i 0))) := hc
  clear hc
  go_enter Try.func25, Try.ntmps25
  go_wp2
  rw [run_callFunc_extern Try.func28 (by kernel_rfl) (by kernel_rfl) (by kernel_rfl) (e := Extern.BytealgCount.count) (by kernel_rfl), Lib.run_countSlice w b 0 n c xs hx HC.out 10]
  simp only [Result.andThen]
  rw [Oper.upon_value]
  go_wp2
  go_ret
  exact ⟨rfl, rfl⟩

set_option maxHeartbeats 400000 in
theorem count_nil (q : Nat) (w : World) (hq : w.cell? ⟨q, 0, none⟩ = some (.int .u8 10)) :
    Calls Try.prog 25 #[.slice none 0 0, .slice (some ⟨q, 0, none⟩) 1 1] w fun e w' => e = .returned (.int .i64 0) ∧ w' = w := by
  go_enter Try.func25, Try.ntmps25
  go_wp2
  rw [run_callFunc_extern Try.func28 (by kernel_rfl) (by kernel_rfl) (by kernel_rfl) (e := Extern.BytealgCount.count) (by kernel_rfl), Lib.run_countNil w 0 0 10]
  simp only [Result.andThen]
  rw [Oper.upon_value]
  go_wp2
  go_ret
  exact ⟨rfl, rfl⟩

set_option maxHeartbeats 400000 in
theorem scan_nil (off : Int) (w : World) :
    Calls Try.prog 18 #[.slice none 0 0, .int .i64 off] w fun e w' => e = .returned (.tuple #[.int .i64 1, .int .i64 1]) ∧ w' = w := by
  go_enter Try.func18, Try.ntmps18
  go_wp2
  go_loop [6, 7, 8] (fun l c i => l = .int .i64 1 ∧ c = .int .i64 1 ∧ i = .int .i64 0) (fun _ _ _ => 0)
  case atStart => exact ⟨rfl, rfl, rfl⟩
  case round =>
    obtain ⟨rfl, rfl, rfl⟩ := hrel
    go_wp2
    go_ret2
    exact ⟨rfl, rfl⟩

set_option maxHeartbeats 400000 in
theorem scan_any (b n c : Nat) (xs : List Int) (off : Int) (w : World) (hn : n ≤ 1048576) (h0 : 0 ≤ off)
    (hc : ∀ i, i < n → w.cell? ⟨b, i, none⟩ = some (.int .u8 (xs.getD i 0))) (m : Nat) (hm : m = min off.toNat n) :
    Calls Try.prog 18 #[.slice (some ⟨b, 0, none⟩) n c, .int .i64 off] w fun e w' => e = .returned (.tuple #[.int .i64 (1 + cntN xs m), .int .i64 (m - lastN xs m)]) ∧ w' = w := by
  have HC : Hid (∀ i, i < n → w.cell? ⟨b, i, none⟩ = some (.int .u8 (xs.getD i 0))) := hc
  have hm1 : (m : Int) ≤ off := by omega
  have hm2 : m ≤ n := by omega
  have hm3 : m = n ∨ off ≤ (m : Int) := by omega
  clear hc hm
  go_enter Try.func18, Try.ntmps18
  go_wp2
  go_loop [6, 7, 8] (fun l c i => ∃ k : Nat, k ≤ m ∧ i = .int .i64 k ∧ l = .int .i64 (1 + cntN xs k) ∧ c = .int .i64 (k - lastN xs k)) (fun _ _ i => n - (intOf i).toNat)
  case atStart => exact ⟨0, Nat.zero_le _, rfl, rfl, rfl⟩
  case round =>
    obtain ⟨k, hk, rfl, rfl, rfl⟩ := hrel
    have hcb := cntN_bd xs k
    have hlb := lastN_bd xs k
    by_cases hlt : k < m
    · have g := HC.out k (by omega)
      have hlo : (k : Int) < off := by omega
      have hln : k < n := by omega
      obtain ⟨v, hv⟩ : ∃ v, v = xs.getD k 0 := ⟨_, rfl⟩
      rw [← hv] at g
      have HV : Hid (v = xs.getD k 0) := hv
      clear hv hm3
      by_cases h10 : v = 10
      · have t1 : (v == 10) = true := by simp [h10]
        have H10 : Hid (v = 10) := h10
        clear h10
        go_wp2
        exact ⟨⟨k + 1, by omega, by go_num, by rw [cntN_yes (HV.out ▸ H10.out)]; go_num, by rw [lastN_yes (HV.out ▸ H10.out)]; go_num⟩, by simp [intOf]; omega⟩
      · have t1 : (v == 10) = false := by simp [h10]
        have H10 : Hid (v ≠ 10) := h10
        clear h10
        go_wp2
        exact ⟨⟨k + 1, by omega, by go_num, by rw [cntN_no (HV.out ▸ H10.out)], by rw [lastN_no (HV.out ▸ H10.out)]; go_num⟩, by simp [intOf]; omega⟩
    · obtain rfl : k = m := by omega
      rcases hm3 with rfl | h3
      · go_wp2
        go_ret2
        exact ⟨rfl, rfl⟩
      · have hd : decide ((k : Int) < off) = false := by simp; omega
        by_cases hkn : k < n
        · go_wp2
          go_ret2
          exact ⟨rfl, rfl⟩
        · go_wp2
          go_ret2
          exact ⟨rfl, rfl⟩
end Go.Proofs.Qxb6000769a
