import Derived.Test.Qxb6000821aText2
import Derived.Test.Qxb6000821aNextE
namespace Go.Proofs.Qxb6000821a
open Go.RowKit

set_option maxHeartbeats 1000000 in
theorem cut_yes (B b10 b5 b12 b9 : Nat) (whole : Bool) (v : Value) (D Y : List UInt8) (n : Int) (w : World) (hD : D.length ≤ 1048576) (hY : D <+: Y) (hv : Holds B w v Y)
    (c10 : w.cell? ⟨b10, 0, none⟩ = some (.bool true)) (c5 : w.cell? ⟨b5, 0, none⟩ = some v) (c12 : w.cell? ⟨b12, 0, none⟩ = some (.int .i64 (D.length : Int))) (c9 : w.cell? ⟨b9, 0, none⟩ = some (.int .i64 n)) :
    Calls Try.prog 27 #[.bool whole, .pointer (some ⟨b10, 0, none⟩), .pointer (some ⟨b5, 0, none⟩), .pointer (some ⟨b12, 0, none⟩), .pointer (some ⟨b9, 0, none⟩)] w
      fun e w' => ∃ v' q, e = .returned (.tuple #[v', .int .i64 n, .bool true, .bool whole]) ∧ w' = w.drewN q ∧ Holds B w v' D ∧ v'.ownBlock = v.ownBlock := by
  have HY : Hid (D <+: Y) := hY
  have HV : Hid (Holds B w v Y) := hv
  have hle := hY.length_le
  rcases hv.shape with ⟨rfl, rfl⟩ | ⟨g, cap, rfl, hcap⟩
  · have hD0 : D = [] := List.prefix_nil.1 hY
    subst hD0
    clear hv hY
    simp only [List.length_nil] at c12
    go_enter Try.func27, Try.ntmps27
    go_wp2_with fail
    go_quiet (fail)
    go_wp2
    exact bodyPost_ret (v := .tuple #[.slice none 0 0, .int .i64 n, .bool true, .bool whole]) (by simp [results, Try.results27, go_sem]) rfl ⟨_, _, rfl, rfl, HV.out, rfl⟩
  · have HH : Hid (Holds B w (.slice (some ⟨g, 0, none⟩) D.length cap) D) := hv.cut hY
    obtain ⟨d, hd⟩ : ∃ d, d = D.length := ⟨_, rfl⟩
    rw [← hd] at c12 HH
    have hdc : d ≤ cap := by omega
    have hdc2 : (d : Int) ≤ (cap : Int) := by omega
    have hd0 : (0 : Int) ≤ (d : Int) := by omega
    clear hv hY hd HY
    go_enter Try.func27, Try.ntmps27
    go_wp2_with fail
    go_quiet (fail)
    go_wp2
    exact bodyPost_ret (v := .tuple #[.slice (some ⟨g, 0, none⟩) d cap, .int .i64 n, .bool true, .bool whole]) (by simp [results, Try.results27, go_sem]) rfl ⟨_, _, rfl, rfl, HH.out, rfl⟩

set_option maxHeartbeats 1000000 in
theorem cut_no (B b10 b5 b12 b9 : Nat) (whole : Bool) (v : Value) (D S Y : List UInt8) (w : World) (hD : D.length ≤ 1048576) (hS : S.length ≤ 1048576) (hY : D ++ S <+: Y) (hv : Holds B w v Y)
    (c10 : w.cell? ⟨b10, 0, none⟩ = some (.bool false)) (c5 : w.cell? ⟨b5, 0, none⟩ = some v) (c12 : w.cell? ⟨b12, 0, none⟩ = some (.int .i64 (D.length : Int))) (c9 : w.cell? ⟨b9, 0, none⟩ = some (.int .i64 (S.length : Int))) :
    Calls Try.prog 27 #[.bool whole, .pointer (some ⟨b10, 0, none⟩), .pointer (some ⟨b5, 0, none⟩), .pointer (some ⟨b12, 0, none⟩), .pointer (some ⟨b9, 0, none⟩)] w
      fun e w' => ∃ v' q, e = .returned (.tuple #[v', .int .i64 (S.length : Int), .bool false, .bool whole]) ∧ w' = w.drewN q ∧ Holds B w v' (D ++ S) ∧ v'.ownBlock = v.ownBlock := by
  have HV : Hid (Holds B w v Y) := hv
  have hle := hY.length_le
  simp only [List.length_append] at hle
  rcases hv.shape with ⟨rfl, rfl⟩ | ⟨g, cap, rfl, hcap⟩
  · have hD0 : D ++ S = [] := List.prefix_nil.1 hY
    simp only [List.append_eq_nil_iff] at hD0
    obtain ⟨rfl, rfl⟩ := hD0
    clear hv hY
    simp only [List.length_nil] at c12 c9
    go_enter Try.func27, Try.ntmps27
    go_wp2_with fail
    go_quiet (fail)
    go_wp2
    exact bodyPost_ret (v := .tuple #[.slice none 0 0, .int .i64 0, .bool false, .bool whole]) (by simp [results, Try.results27, go_sem]) rfl ⟨_, _, rfl, rfl, HV.out, rfl⟩
  · have HH : Hid (Holds B w (.slice (some ⟨g, 0, none⟩) (D ++ S).length cap) (D ++ S)) := hv.cut hY
    rw [List.length_append] at HH
    obtain ⟨d, hd⟩ : ∃ d, d = D.length := ⟨_, rfl⟩
    obtain ⟨m, hm⟩ : ∃ m, m = S.length := ⟨_, rfl⟩
    simp only [← hd, ← hm] at c12 c9 HH hle ⊢
    have hdc : d + m ≤ cap := by omega
    have hdc2 : (d : Int) + (m : Int) ≤ (cap : Int) := by omega
    have hd0 : (0 : Int) ≤ (d : Int) + (m : Int) := by omega
    have hd1 : d ≤ 1048576 := by omega
    have hm1 : m ≤ 1048576 := by omega
    have et : ((d : Int) + (m : Int)).toNat = d + m := by omega
    clear hv hY hd hm HV
    go_enter Try.func27, Try.ntmps27
    go_wp2_with fail
    go_quiet (fail)
    go_wp2
    exact bodyPost_ret (v := .tuple #[.slice (some ⟨g, 0, none⟩) (d + m) cap, .int .i64 (m : Int), .bool false, .bool whole]) (by simp [results, Try.results27, go_sem]) rfl ⟨_, _, rfl, rfl, HH.out, rfl⟩
end Go.Proofs.Qxb6000821a
