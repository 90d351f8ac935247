import Derived.Test.Qxb6000821aClone
import Derived.Test.Qxb6000821aSpell
import Derived.Deep.QuietTactic
import Derived.BigQuiet
import Derived.Deep.LoopGhost
import Derived.Lib.SliceRun
namespace Go.Proofs.Qxb6000821a
open Go.RowKit

/-- The slice v reads the bytes D in w. -/
def Reads (w : World) (v : Value) (D : List UInt8) : Prop :=
  (v = .slice none 0 0 ∧ D = []) ∨ ∃ x cap, v = .slice (some x) D.length cap ∧ D.length ≤ cap ∧ cap ≤ maxLen ∧ ∀ j (h : j < D.length), w.cell? (x.add j) = some (.int .u8 (D[j].toNat : Int))

theorem Holds.reads {B : Nat} {w : World} {v : Value} {l : List UInt8} (h : Holds B w v l) : Reads w v l := by
  rcases h.2 with ⟨h1, h2⟩ | ⟨g, cap, cur, hv, _, hg, hc, hm, hs, ht⟩
  · exact .inl ⟨h1, List.eq_nil_of_length_eq_zero h2⟩
  · refine .inr ⟨_, cap, hv, hc, hm, fun j hj => ?_⟩
    have hadd : (⟨g, 0, none⟩ : Addr).add j = ⟨g, j, none⟩ := by unfold Addr.add; split <;> simp_all
    rw [hadd, cell_of_row w g j cur 5 (0, 0) hg]
    have : (cur.toList.take (l.length * 1))[j]? = (Lib.byteCells l)[j]? := by rw [ht]
    rw [List.getElem?_take_of_lt (by omega)] at this
    simpa [Lib.byteCells, hj] using this

theorem clone_any (w : World) (a : Option Addr) (n c : Nat) (D : List UInt8) (hD : D.length ≤ 1048576) (h : Reads w (.slice a n c) D) :
    Calls Try.prog 8 #[.slice a n c] w fun e w' => ∃ v', e = .returned v' ∧ Holds w.heap.size w' v' D ∧ Below w.heap.size w w' := by
  have qT : ∀ (w : World) (a : Option Addr) (n c : Nat), (binOp .eql 23 (.slice a n c) (.slice none 0 0)).run Try.prog w = .ok (.bool a.isNone) w := fun w a n c => Lib.run_eql_slice_nil w 23 5 a n c 0 0 Try.underlying23
  rcases h with ⟨h1, rfl⟩ | ⟨x, cap, h1, hc, hm, hcell⟩
  · cases h1
    go_enter Try.func8, Try.ntmps8
    go_wp2
    refine bodyPost_ret (v := .slice none 0 0) (by simp [results, Try.results8, go_sem]) rfl ⟨_, rfl, ⟨rfl, .inl ⟨rfl, rfl⟩⟩, Below.refl _ _⟩
  · cases h1
    obtain ⟨i, hi, hz0, hz1, hz2⟩ := info_parts info5
    obtain ⟨w1, w2, hmk, hcp, hrow, hB, hsz⟩ := clone_runs (P := Try.prog) w 23 5 i Try.underlying23 hi hz0 hz1 hz2 D.length c hD x (D.map fun b => (b.toNat : Int)) (by simp) (fun j hj => by
      rw [hcell j hj]; simp [List.getD_eq_getElem?_getD, hj])
    have HH : Hid (Holds w.heap.size w2 (.slice (some ⟨w.heap.size, 0, none⟩) D.length D.length) D) := by
      refine ⟨by simp [Lib.byteCells], .inr ⟨w.heap.size, D.length, _, rfl, Nat.le_refl _, hrow, Nat.le_refl _, by simp [maxLen]; omega, by simp, ?_⟩⟩
      simp only [Nat.mul_one, Lib.byteCells]
      rw [List.take_of_length_le (by simp), List.take_of_length_le (by simp)]
      simp
    have HB : Hid (Below w.heap.size w w2) := hB
    have hcp1 := hcp
    clear hcell hrow hB
    go_enter Try.func8, Try.ntmps8
    go_wp2
    refine bodyPost_ret (v := .slice (some ⟨w.heap.size, 0, none⟩) D.length D.length) (by simp [results, Try.results8, go_sem]) rfl ⟨_, rfl, HH.out, HB.out⟩

theorem Reads.len {w : World} {a : Option Addr} {n c : Nat} {D : List UInt8} (h : Reads w (.slice a n c) D) : n = D.length := by
  rcases h with ⟨h1, rfl⟩ | ⟨x, cap, h1, _⟩ <;> cases h1 <;> rfl
theorem Reads.get {w : World} {a : Option Addr} {n c : Nat} {D : List UInt8} (h : Reads w (.slice a n c) D) {j : Nat} (hj : j < D.length) :
    ∃ x, a = some x ∧ w.cell? (x.add j) = some (.int .u8 (D[j].toNat : Int)) := by
  rcases h with ⟨h1, rfl⟩ | ⟨x, cap, h1, _, _, hc⟩
  · simp at hj
  · cases h1
    exact ⟨x, rfl, hc j hj⟩

set_option maxHeartbeats 1000000 in
theorem eq_true (w : World) (a b : Option Addr) (n m c d : Nat) (D : List UInt8) (hD : D.length ≤ 4194304) (h : Reads w (.slice a n c) D) (k : Reads w (.slice b m d) D) :
    Calls Try.prog 11 #[.slice a n c, .slice b m d] w fun e w' => e = .returned (.bool true) ∧ ∃ n, w' = w.drewN n := by
  obtain rfl := h.len
  obtain rfl := k.len
  have HA : Hid (Reads w (.slice a D.length c) D) := h
  have HB : Hid (Reads w (.slice b D.length d) D) := k
  clear h k
  go_enter Try.func11, Try.ntmps11
  go_wp2
  go_loopg [5] D.length (fun g s wx => ∃ i N : Nat, i + g = D.length ∧ s = .int .i64 i ∧ wx = w.drewN N)
  case atStart => exact ⟨0, 0, by omega, rfl, rfl⟩
  case round =>
    obtain ⟨i, N, hig, rfl, rfl⟩ := hrel
    cases gk with
    | zero =>
      obtain rfl : i = D.length := by omega
      go_wp2
      go_ret
      exact ⟨rfl, N, rfl⟩
    | succ g =>
      have hi : i < D.length := by omega
      have hiz : (i : Int) < (D.length : Int) := by omega
      obtain ⟨x, rfl, hx⟩ := HA.out.get hi
      obtain ⟨y, rfl, hy⟩ := HB.out.get hi
      generalize D[i].toNat = q at hx hy
      go_wp2
      go_quiet (fail)
      go_wp2
      go_roundg g
      case measure => omega
      case rel => exact ⟨i + 1, _, by omega, by first | rfl | simp, rfl⟩
end Go.Proofs.Qxb6000821a
