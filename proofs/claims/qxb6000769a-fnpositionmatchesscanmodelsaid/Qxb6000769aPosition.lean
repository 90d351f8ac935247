import Derived.Test.Qxb6000769aWalksA
namespace Go.Proofs.Qxb6000769a
open Go.RowKit

theorem ret_pair {a b c d : Int} (h1 : a = c) (h2 : b = d) : Ending.returned (.tuple #[.int .i64 a, .int .i64 b]) = .returned (.tuple #[.int .i64 c, .int .i64 d]) := by rw [h1, h2]

set_option maxHeartbeats 400000 in
theorem position_nil (off : Int) (w : World) (h0 : 0 ≤ off) (h1 : off ≤ 2147483647) :
    Calls Try.prog 24 #[.slice none 0 0, .int .i64 off] w fun e w' => e = .returned (.tuple #[.int .i64 1, .int .i64 1]) ∧ Below w.heap.size w w' := by
  have kc := fun (w : World) (C : Array Value) (n c : Nat) => Lib.run_convert_bytes_const (P := Try.prog) w 27 5 C n c Try.underlying27 Try.underlying5
  have hmin : min off 0 = 0 := by omega
  go_enter Try.func24, Try.ntmps24
  go_wp2_with fail
  refine (count_nil w.heap.size _ (by simp [World.cell?_alloc_mark])).mono ?_
  rintro e w1 ⟨rfl, rfl⟩
  go_wp2_with (first
    | (go_at_call 30; refine (last_nil _).mono ?_; rintro e w1 ⟨rfl, rfl⟩)
    | go_in)
  go_ret2
  exact ⟨rfl, (Below.refl _ _).alloc (Nat.le_refl _) _⟩

set_option maxHeartbeats 400000 in
theorem position_any (b n : Nat) (xs : List Int) (off : Int) (w : World) (hx : xs.length = n) (hn : n ≤ 1048576) (h0 : 0 ≤ off) (h1 : off ≤ 2147483647) (hw : ∀ y ∈ xs, 0 ≤ y ∧ y ≤ 255)
    (hc : ∀ i, i < n → w.cell? ⟨b, i, none⟩ = some (.int .u8 (xs.getD i 0))) (m : Nat) (hm : m = min off.toNat n) :
    Calls Try.prog 24 #[.slice (some ⟨b, 0, none⟩) n n, .int .i64 off] w fun e w' => e = .returned (.tuple #[.int .i64 (1 + cntN xs m), .int .i64 (m - lastN xs m)]) ∧ Below w.heap.size w w' := by
  have kc := fun (w : World) (C : Array Value) (n c : Nat) => Lib.run_convert_bytes_const (P := Try.prog) w 27 5 C n c Try.underlying27 Try.underlying5
  have HC : Hid (∀ i, i < n → w.cell? ⟨b, i, none⟩ = some (.int .u8 (xs.getD i 0))) := hc
  have HW : Hid (∀ y ∈ xs, 0 ≤ y ∧ y ≤ 255) := hw
  have hmin : min off (n : Int) = (m : Int) := by omega
  have hm2 : m ≤ n := by omega
  clear hc hm hw
  go_enter Try.func24, Try.ntmps24
  go_wp2_with fail
  have hold : ∀ i, i < n → (w.alloc (Obj.cells #[Value.int IntKind.u8 10] 5 (1, 2))).cell? ⟨b, i, none⟩ = some (.int .u8 (xs.getD i 0)) := fun i hi =>
    Lib.cell?_alloc_marked _ (HC.out i hi)
  have HO : Hid (∀ i, i < n → (w.alloc (Obj.cells #[Value.int IntKind.u8 10] 5 (1, 2))).cell? ⟨b, i, none⟩ = some (.int .u8 (xs.getD i 0))) := hold
  have htl : (xs.take m).length = m := by simp; omega
  have hcnt := count_cnt xs HW.out m (by omega)
  refine (count_any b m n w.heap.size (xs.take m) _ htl (fun i hi => by rw [Nat.zero_add, HO.out i (by omega)]; simp [List.getD_eq_getElem?_getD, hi]) (by simp [World.cell?_alloc_mark])).mono ?_
  rintro e w1 ⟨rfl, rfl⟩
  rw [hcnt]
  have hcb := cntN_bd xs m
  have hlb := lastN_bd xs m
  clear hold htl hcnt
  go_wp2_with (first
    | (go_at_call 30; refine (last_any b m n xs _ (by omega) (fun i hi => HO.out i (by omega))).mono ?_; rintro e w1 ⟨rfl, rfl⟩)
    | go_in)
  go_ret2
  exact ⟨ret_pair (a := 1 + cntN xs m) (b := 1 + (m : Int) - (lastN xs m + 1)) rfl (by omega), (Below.refl _ _).alloc (Nat.le_refl _) _⟩
end Go.Proofs.Qxb6000769a
