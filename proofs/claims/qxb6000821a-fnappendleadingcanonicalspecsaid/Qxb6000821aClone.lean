import Derived.WalkKit
import Derived.Laws.CopyRow
namespace Go.Proofs.Qxb6000821a
open Go.RowKit

/-- 'c := make([]byte, n); copy(c, b)': the two runs, and what the new row holds. -/
theorem clone_runs {P : Program} (w : World) (t e : TypeId) (i : TypeInfo) (ht : P.underlying t = some (.slice e)) (hi : P.info? e = some i) (hz : i.zero = some (.int .u8 0)) (hs : i.size = 1) (hb : i.bytes = 1)
    (n c : Nat) (hn : n ≤ 1048576) (x : Addr) (zs : List Int) (hl : n ≤ zs.length) (hcell : ∀ j, j < n → w.cell? (x.add j) = some (.int .u8 (zs.getD j 0))) :
    ∃ w1 w2, (Instr.makeSlice t (.int .i64 (n : Int)) (.int .i64 (n : Int))).run P w = .ok (.slice (some ⟨w.heap.size, 0, none⟩) n n) w1 ∧
      (∀ ty, (Builtin.copy_ #[t, t] ty #[.slice (some ⟨w.heap.size, 0, none⟩) n n, .slice (some x) n c]).run P w1 = .ok (.int .i64 (n : Int)) w2) ∧
      w2.heap[w.heap.size]? = some (.cells ((zs.take n).map (Value.int .u8)).toArray e (0, 0)) ∧ Below w.heap.size w w2 ∧ w2.heap.size = w.heap.size + 1 := by
  have hmk := run_make (P := P) w t e i (.int .u8 0) ht hi hz .i64 .i64 n n (by omega) (by omega) (by rw [hb]; omega) (by omega)
  simp only [Int.toNat_natCast, hs, Nat.mul_one] at hmk
  obtain ⟨cur, hcur⟩ : ∃ cur, cur = madeCells (Value.int .u8 0).cells n := ⟨_, rfl⟩
  have hsz : cur.size = n := by rw [hcur]; exact size_madeCells _ _
  rw [← hcur] at hmk
  have hg : (w.alloc (.cells cur e)).heap[w.heap.size]? = some (.cells cur e (0, 0)) := by
    show (w.heap.push _)[w.heap.size]? = _
    simp
  have hcl : ((zs.take n).map (Value.int .u8)).length = n := by simp; omega
  have hB : Below w.heap.size w (w.alloc (.cells cur e)) := (Below.refl _ _).alloc (Nat.le_refl _) _
  have hget : ∀ j, j < n → ((zs.take n).map (Value.int .u8))[j]? = some (.int .u8 (zs.getD j 0)) := by
    intro j hj
    simp [List.getD_eq_getElem?_getD, hj, show j < zs.length by omega]
  have hsrc : ∀ j v, ((zs.take n).map (Value.int .u8))[j]? = some v → (w.alloc (.cells cur e)).cell? (x.add j) = some v := by
    intro j v hv
    have hj : j < n := by have := (List.getElem?_eq_some_iff.1 hv).1; omega
    have hc := hcell j hj
    rw [hB.cell (block_lt_of_cell hc), hc, ← hget j hj, hv]
  have hone : ∀ v ∈ (zs.take n).map (Value.int .u8), v.oneCell' = true := ints_oneCell _ _
  have hcp := fun ty => run_copy_row (P := P) (w.alloc (.cells cur e)) t t ty e w.heap.size 0 n n x n c cur e ((zs.take n).map (Value.int .u8)) ht (by rw [hi]; simp [hs]) hg (by rw [hcl]; simp) hsrc (by rw [hcl, hsz]; omega) hone
  have hrw : cur.toList.take 0 ++ (zs.take n).map (Value.int .u8) ++ cur.toList.drop (0 + ((zs.take n).map (Value.int .u8)).length) = (zs.take n).map (Value.int .u8) := by
    rw [List.drop_eq_nil_of_le (by rw [hcl]; simp [hsz])]
    simp
  simp only [hrw] at hcp
  simp only [hcl] at hcp
  obtain ⟨cs, hcs⟩ : ∃ cs, cs = (zs.take n).map (Value.int .u8) := ⟨_, rfl⟩
  rw [← hcs] at hcp hget
  have hrow := setRow_heap (w.alloc (.cells cur e)) w.heap.size cur cs.toArray e (0, 0) hg
  refine ⟨_, _, hmk, hcp, ?_, ?_, ?_⟩
  · rw [← hcs]; exact hrow
  · exact hB.trans ⟨rfl, rfl, rfl, by simp [World.setRow], fun k hk => setRow_other _ _ k _ (by omega)⟩
  · simp [World.setRow]
end Go.Proofs.Qxb6000821a
