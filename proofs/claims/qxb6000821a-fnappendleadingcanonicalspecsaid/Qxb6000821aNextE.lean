import Derived.Test.Qxb6000821aNext
namespace Go.Proofs.Qxb6000821a
open Go.RowKit


/-- What the code comes to, by the plain function's answer. -/
theorem next_fail (nm : ByteArray) (l : List UInt8) (i : Nat) (w : World) (hl : l = nm.data.toList) (hn : nm.size ≤ 1048576) (h : nextE l i = none) :
    Calls Try.prog 28 #[.string nm, .int .i64 i] w fun e w' => e = .returned (.tuple #[.agg #[.string ⟨#[]⟩, .bool false], .int .i64 0, .bool false]) ∧ Below w.heap.size w w' := by
  have hll : l.length = nm.size := by rw [hl]; simp
  by_cases h1 : nm.size ≤ i
  · exact next_no1 nm i w h1
  · have hi : i < nm.size := by omega
    have hli := name_at hl i hi
    unfold nextE at h
    rw [if_neg (by omega)] at h
    by_cases h2 : 0 < i ∧ l[i]? = some 91
    · rw [if_pos h2] at h
      have hc : nm[i] = 91 := by rw [hli] at h2; exact Option.some.inj h2.2
      have hix := index_while 93 (l.drop (i + 1))
      change _ = if ((l.drop (i + 1)).takeWhile notBr).length < (l.drop (i + 1)).length then (((l.drop (i + 1)).takeWhile notBr).length : Int) else -1 at hix
      refine next_br_no nm i w hn h2.1 hi hc _ (by rw [← hl]) ?_
      rw [hix]
      split at h
      · rename_i h3
        rcases h3 with h3 | h3
        · rw [h3]
          split <;> simp
        · rw [if_neg (by rw [List.length_drop]; omega)]; decide
      · cases h
    · rw [if_neg h2] at h
      by_cases h3 : 0 < i ∧ l[i]? ≠ some 46
      · refine next_no2 nm i w h3.1 hi ?_ ?_
        · intro e; exact h2 ⟨h3.1, by rw [hli, e]⟩
        · intro e; exact h3.2 (by rw [hli, e])
      · rw [if_neg h3] at h
        have hst : (i = 0 ∧ (if 0 < i then i + 1 else 0) = 0) ∨ (0 < i ∧ (if 0 < i then i + 1 else 0) = i + 1 ∧ nm[i] = 46) := by
          by_cases h0 : 0 < i
          · right
            refine ⟨h0, if_pos h0, ?_⟩
            have : l[i]? = some 46 := Classical.byContradiction fun hh => h3 ⟨h0, hh⟩
            rw [hli] at this
            exact Option.some.inj this
          · left; exact ⟨by omega, if_neg h0⟩
        generalize (if 0 < i then i + 1 else 0) = st at h hst
        have hE : dotT l st = [] := by
          unfold dotT
          split at h
          · assumption
          · cases h
        have hsc := scan_of nm l st hl
        rw [hE] at hsc
        exact next_none nm i st w hn hi hsc hst

theorem next_some (nm : ByteArray) (l : List UInt8) (i : Nat) (t : List UInt8) (br : Bool) (nx : Nat) (w : World) (hl : l = nm.data.toList) (hn : nm.size ≤ 1048576) (h : nextE l i = some (t, br, nx)) :
    Calls Try.prog 28 #[.string nm, .int .i64 i] w fun e w' => ∃ s : ByteArray, e = .returned (.tuple #[.agg #[.string s, .bool br], .int .i64 (nx : Int), .bool true]) ∧ t = s.data.toList ∧ Below w.heap.size w w' := by
  have hll : l.length = nm.size := by rw [hl]; simp
  unfold nextE at h
  split at h
  · cases h
  · rename_i h1
    have hi : i < nm.size := by omega
    have hli := name_at hl i hi
    by_cases h2 : 0 < i ∧ l[i]? = some 91
    · rw [if_pos h2] at h
      have hc : nm[i] = 91 := by rw [hli] at h2; exact Option.some.inj h2.2
      have hix := index_while 93 (l.drop (i + 1))
      change _ = if ((l.drop (i + 1)).takeWhile notBr).length < (l.drop (i + 1)).length then (((l.drop (i + 1)).takeWhile notBr).length : Int) else -1 at hix
      split at h
      · cases h
      · rename_i h3
        simp only [not_or] at h3
        simp only [Option.some.injEq, Prod.mk.injEq] at h
        obtain ⟨rfl, rfl, rfl⟩ := h
        have hpos : 0 < ((l.drop (i + 1)).takeWhile notBr).length := List.length_pos_iff.2 h3.1
        rw [if_pos (by rw [List.length_drop]; omega)] at hix
        refine (next_br_yes nm i w hn h2.1 hi hc _ (by rw [← hl]; exact hix) hpos (by omega)).mono ?_
        rintro e w' ⟨rfl, hB⟩
        refine ⟨_, rfl, ?_, hB⟩
        rw [ext_list, ← hl, Nat.add_sub_cancel_left]
        exact (while_take _ _).symm
    · rw [if_neg h2] at h
      by_cases h3 : 0 < i ∧ l[i]? ≠ some 46
      · rw [if_pos h3] at h; cases h
      · rw [if_neg h3] at h
        have hst : (i = 0 ∧ (if 0 < i then i + 1 else 0) = 0) ∨ (0 < i ∧ (if 0 < i then i + 1 else 0) = i + 1 ∧ nm[i] = 46) := by
          by_cases h0 : 0 < i
          · right
            refine ⟨h0, if_pos h0, ?_⟩
            have : l[i]? = some 46 := Classical.byContradiction fun hh => h3 ⟨h0, hh⟩
            rw [hli] at this
            exact Option.some.inj this
          · left; exact ⟨by omega, if_neg h0⟩
        generalize (if 0 < i then i + 1 else 0) = st at h hst
        split at h
        · cases h
        · rename_i hE
          simp only [Option.some.injEq, Prod.mk.injEq] at h
          obtain ⟨rfl, rfl, rfl⟩ := h
          have hpos : 0 < (dotT l st).length := List.length_pos_iff.2 hE
          have hle : (dotT l st).length ≤ (l.drop st).length := while_le _ _
          rw [List.length_drop] at hle
          refine (next_dot nm i st (st + (dotT l st).length) w hn hi (scan_of nm l st hl) (by omega) (by omega) hst).mono ?_
          rintro e w' ⟨rfl, hB⟩
          refine ⟨_, rfl, ?_, hB⟩
          rw [ext_list, ← hl, Nat.add_sub_cancel_left]
          exact (while_take _ _).symm
end Go.Proofs.Qxb6000821a
