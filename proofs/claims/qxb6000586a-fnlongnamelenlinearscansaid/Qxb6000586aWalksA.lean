import Derived.Test.Qxb6000586aRows
import Derived.Test.Qxb6000586aPlain
import Derived.WalkKit
import Derived.WalkSpells
import Derived.WalkLawsBesides
import Derived.Lib.BytesEntry
import Derived.Lib.Walk
namespace Go.Proofs.Qxb6000586a
open Go.RowKit

set_option maxHeartbeats 400000 in
theorem bytes_ok (a : Option Addr) (n c : Nat) (w : World) (hn : n ≤ 1048576) :
    Calls Try.prog 14 #[.slice a n c] w fun e w' => e = .returned (.bool true) ∧ w' = w := by
  go_enter Try.func14, Try.ntmps14
  go_wp2
  go_ret
  exact ⟨rfl, rfl⟩

set_option maxHeartbeats 400000 in
theorem bytes_no (a : Option Addr) (n c : Nat) (w : World) (hn : 1048576 < n) :
    Calls Try.prog 14 #[.slice a n c] w fun e w' => e = .returned (.bool false) ∧ w' = w := by
  go_enter Try.func14, Try.ntmps14
  go_wp2
  go_ret
  exact ⟨rfl, rfl⟩

set_option maxHeartbeats 400000 in
theorem index_any (b o n c : Nat) (xs : List Int) (cv : Int) (w : World) (hx : xs.length = n)
    (hc : ∀ i, i < n → w.cell? ⟨b, o + i, none⟩ = some (.int .u8 (xs.getD i 0))) :
    Calls Try.prog 26 #[.slice (some ⟨b, o, none⟩) n c, .int .u8 cv] w fun e w' => e = .returned (.int .i64 (Lib.indexByte (Lib.bytesOf xs) cv.toNat.toUInt8)) ∧ w' = w := by
  go_enter Try.func26, Try.ntmps26
  go_wp2
  rw [run_callFunc_extern Try.func29 (by kernel_rfl) (by kernel_rfl) (by kernel_rfl) (e := Extern.BytealgIndexByte.indexByte) (by kernel_rfl), Lib.run_indexByteSlice w b o n c xs hx hc cv]
  simp only [Result.andThen]
  rw [Oper.upon_value]
  go_wp2
  go_ret
  exact ⟨rfl, rfl⟩

set_option maxHeartbeats 400000 in
theorem model_nil (w : World) :
    Calls Try.prog 16 #[.slice none 0 0] w fun e w' => e = .returned (.int .i64 0) ∧ w' = w := by
  go_enter Try.func16, Try.ntmps16
  go_wp2
  go_loop [3] (fun i => i = .int .i64 8) (fun _ => 0)
  case atStart => rfl
  case round =>
    obtain rfl := hrel
    go_wp2
    go_ret
    exact ⟨rfl, rfl⟩

set_option maxHeartbeats 400000 in
theorem model_any (b n c : Nat) (xs : List Int) (w : World) (hx : xs.length = n) (hn : n ≤ 1048576)
    (hc : ∀ i, i < n → w.cell? ⟨b, i, none⟩ = some (.int .u8 (xs.getD i 0))) :
    Calls Try.prog 16 #[.slice (some ⟨b, 0, none⟩) n c] w fun e w' => (∃ r : Nat, e = .returned (.int .i64 r) ∧ IsEnd xs r) ∧ w' = w := by
  go_enter Try.func16, Try.ntmps16
  go_wp2
  go_loop [3] (fun i => ∃ k : Nat, 8 ≤ k ∧ k ≤ 1048576 + 8 ∧ i = .int .i64 k ∧ Clean xs k) (fun i => n - (intOf i).toNat)
  case atStart => exact ⟨8, by omega, by omega, rfl, clean_start xs⟩
  case round =>
    obtain ⟨k, hk8, hk, rfl, hcl⟩ := hrel
    by_cases hlt : k < n
    · have g := hc k hlt
      clear hc
      obtain ⟨v, hv⟩ : ∃ v, v = xs.getD k 0 := ⟨_, rfl⟩
      rw [← hv] at g
      have HV : Hid (v = xs.getD k 0) := hv
      clear hv
      by_cases h1 : v = 34
      · have t1 : (v == 34) = true := by simp [h1]
        have H1 : Hid (v = 34) := h1
        clear h1
        go_wp2
        go_ret
        exact ⟨⟨k, rfl, end_at hcl hk8 (by omega) (.inl (HV.out ▸ H1.out))⟩, rfl⟩
      · have t1 : (v == 34) = false := by simp [h1]
        by_cases h2 : v = 92
        · have t2 : (v == 92) = true := by simp [h2]
          have H2 : Hid (v = 92) := h2
          clear h1 h2
          go_wp2
          go_ret
          exact ⟨⟨k, rfl, end_at hcl hk8 (by omega) (.inr (HV.out ▸ H2.out))⟩, rfl⟩
        · have t2 : (v == 92) = false := by simp [h2]
          have hc2 : Clean xs (k + 1) := clean_succ hcl (HV.out ▸ h1) (HV.out ▸ h2)
          clear h1 h2
          go_wp2
          exact ⟨⟨k + 1, by omega, by omega, by go_num, hc2⟩, by simp [intOf]; omega⟩
    · go_wp2
      go_ret
      exact ⟨⟨n, rfl, hx ▸ end_of_clean hcl (by omega)⟩, rfl⟩

set_option maxHeartbeats 400000 in
theorem long_nil (w : World) :
    Calls Try.prog 24 #[.slice none 0 0] w fun e w' => e = .returned (.int .i64 0) ∧ w' = w := by
  go_enter Try.func24, Try.ntmps24
  go_wp2
  go_loop [3] (fun i => i = .int .i64 8) (fun _ => 0)
  case atStart => rfl
  case round =>
    obtain rfl := hrel
    go_wp2
    go_ret
    exact ⟨rfl, rfl⟩

set_option maxHeartbeats 400000 in
theorem long_any (b n : Nat) (xs : List Int) (w : World) (hx : xs.length = n) (hn : n ≤ 1048576) (hw : ∀ y ∈ xs, 0 ≤ y ∧ y ≤ 255)
    (hc : ∀ i, i < n → w.cell? ⟨b, i, none⟩ = some (.int .u8 (xs.getD i 0))) :
    Calls Try.prog 24 #[.slice (some ⟨b, 0, none⟩) n n] w fun e w' => (∃ r : Nat, e = .returned (.int .i64 r) ∧ IsEnd xs r) ∧ w' = w := by
  have HW : Hid (∀ y ∈ xs, 0 ≤ y ∧ y ≤ 255) := hw
  have HC : Hid (∀ i, i < n → w.cell? ⟨b, i, none⟩ = some (.int .u8 (xs.getD i 0))) := hc
  clear hw hc
  go_enter Try.func24, Try.ntmps24
  go_wp2
  go_loop [3] (fun i => ∃ k : Nat, 8 ≤ k ∧ k ≤ 1048576 + 256 + 8 ∧ i = .int .i64 k ∧ Clean xs k) (fun i => n - (intOf i).toNat)
  case atStart => exact ⟨8, by omega, by omega, rfl, clean_start xs⟩
  case round =>
    obtain ⟨k, hk8, hk, rfl, hcl⟩ := hrel
    by_cases hlt : k < n
    · go_wp2_with fail
      generalize hm : (min ((k : Int) + 256) (n : Int)).toNat - k = m
      have hm1 : 1 ≤ m := by omega
      have hm2 : k + m ≤ n := by omega
      have hm3 : m ≤ 256 := by omega
      have hm4 : m < 256 → k + m = n := by omega
      clear hm
      have wl := win_len xs k m (by omega)
      refine (index_any b k m (n - k) (win xs k m) 34 w wl (fun i hi => by rw [HC.out _ (by omega), win_get _ _ _ _ hi])).mono ?_
      rintro e w' ⟨rfl, rfl⟩
      rcases idx_cases (win xs k m) (win_wf HW.out k m) 34 (by omega) (by omega) with ⟨hr, h34⟩ | ⟨o, hr, hol, ho, h34⟩
      · rw [hr]
        have H34 : Hid (∀ j, j < m → (win xs k m).getD j 0 ≠ 34) := by rw [wl] at h34; exact h34
        clear hr h34
        go_wp2_with fail
        refine (index_any b k m (n - k) (win xs k m) 92 w' wl (fun i hi => by rw [HC.out _ (by omega), win_get _ _ _ _ hi])).mono ?_
        rintro e w' ⟨rfl, rfl⟩
        rcases idx_cases (win xs k m) (win_wf HW.out k m) 92 (by omega) (by omega) with ⟨hr, h92⟩ | ⟨o, hr, hol, ho, h92⟩
        · rw [hr]
          have hc2 : Clean xs (k + 256) := clean_on (clean_win hcl H34.out (by rw [wl] at h92; exact h92)) (by omega) hm3
          clear hr h92
          go_wp2
          exact ⟨⟨k + 256, by omega, by omega, by go_num, hc2⟩, by simp [intOf]; omega⟩
        · rw [hr]
          rw [wl] at hol
          have he : IsEnd xs (k + o) := end_win hcl hk8 (by omega) (fun j hj => by rw [← win_get xs k m j (by omega)]; exact H34.out j (by omega))
            (fun j hj => by rw [← win_get xs k m j (by omega)]; exact h92 j hj) (.inr (by rw [← win_get xs k m o hol]; exact ho))
          clear hr h92 ho
          go_wp2
          go_ret
          exact ⟨⟨k + o, by go_num, he⟩, rfl⟩
      · rw [hr]
        rw [wl] at hol
        have H34 : Hid (∀ j, j < o → xs.getD (k + j) 0 ≠ 34) := fun j hj => by rw [← win_get xs k m j (by omega)]; exact h34 j hj
        have HO : Hid (xs.getD (k + o) 0 = 34) := by show _ = _; rw [← win_get xs k m o hol]; exact ho
        clear hr h34 ho
        have wo := win_len xs k o (by omega)
        go_wp2_with fail
        refine (index_any b k o (n - k) (win xs k o) 92 w' wo (fun i hi => by rw [HC.out _ (by omega), win_get _ _ _ _ hi])).mono ?_
        rintro e w' ⟨rfl, rfl⟩
        rcases idx_cases (win xs k o) (win_wf HW.out k o) 92 (by omega) (by omega) with ⟨hr, h92⟩ | ⟨o2, hr, hol2, ho2, h92⟩
        · rw [hr]
          rw [wo] at h92
          have he : IsEnd xs (k + o) := end_win hcl hk8 (by omega) H34.out
            (fun j hj => by rw [← win_get xs k o j (by omega)]; exact h92 j hj) (.inl HO.out)
          clear hr h92
          go_wp2
          go_ret
          exact ⟨⟨k + o, by go_num, he⟩, rfl⟩
        · rw [hr]
          rw [wo] at hol2
          have he : IsEnd xs (k + o2) := end_win hcl hk8 (by omega) (fun j hj => H34.out j (by omega))
            (fun j hj => by rw [← win_get xs k o j (by omega)]; exact h92 j hj) (.inr (by rw [← win_get xs k o o2 hol2]; exact ho2))
          clear hr h92 ho2
          go_wp2
          go_ret
          exact ⟨⟨k + o2, by go_num, he⟩, rfl⟩
    · go_wp2
      go_ret
      exact ⟨⟨n, rfl, hx ▸ end_of_clean hcl (by omega)⟩, rfl⟩
end Go.Proofs.Qxb6000586a
