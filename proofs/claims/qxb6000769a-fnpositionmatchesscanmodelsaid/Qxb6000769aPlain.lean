import Derived.Lib.Bytealg
import Derived.Lib.Bytes
namespace Go.Proofs.Qxb6000769a

/-- How many of the first k bytes are newlines; where the last of them stands (-1: nowhere). -/
def cntN (xs : List Int) : Nat → Int
  | 0 => 0
  | k + 1 => cntN xs k + if xs.getD k 0 = 10 then 1 else 0
def lastN (xs : List Int) : Nat → Int
  | 0 => -1
  | k + 1 => if xs.getD k 0 = 10 then (k : Int) else lastN xs k

theorem cntN_bd (xs : List Int) : ∀ k, 0 ≤ cntN xs k ∧ cntN xs k ≤ k
  | 0 => by simp [cntN]
  | k + 1 => by
    have := cntN_bd xs k
    unfold cntN
    split <;> omega
theorem lastN_bd (xs : List Int) : ∀ k : Nat, -1 ≤ lastN xs k ∧ lastN xs k < k
  | 0 => by simp [lastN]
  | k + 1 => by
    have := lastN_bd xs k
    unfold lastN
    split <;> omega
theorem cntN_yes {xs : List Int} {k : Nat} (h : xs.getD k 0 = 10) : cntN xs (k + 1) = cntN xs k + 1 := by rw [cntN, if_pos h]
theorem cntN_no {xs : List Int} {k : Nat} (h : xs.getD k 0 ≠ 10) : cntN xs (k + 1) = cntN xs k := by rw [cntN, if_neg h]; omega
theorem lastN_yes {xs : List Int} {k : Nat} (h : xs.getD k 0 = 10) : lastN xs (k + 1) = k := by rw [lastN, if_pos h]
theorem lastN_no {xs : List Int} {k : Nat} (h : xs.getD k 0 ≠ 10) : lastN xs (k + 1) = lastN xs k := by rw [lastN, if_neg h]

theorem count_snoc (c : UInt8) (l : List UInt8) (d : UInt8) : Lib.countByte (l ++ [d]) c = Lib.countByte l c + if d = c then 1 else 0 := by
  simp [Lib.countByte, List.count_append, List.count_singleton]

theorem count_cnt (xs : List Int) (hw : ∀ y ∈ xs, 0 ≤ y ∧ y ≤ 255) : ∀ m, m ≤ xs.length → Lib.countByte (Lib.bytesOf (xs.take m)) (10 : Int).toNat.toUInt8 = cntN xs m
  | 0, _ => by simp [Lib.bytesOf, Lib.countByte, cntN]
  | m + 1, h => by
    have ih := count_cnt xs hw m (by omega)
    have hb := hw xs[m] (List.getElem_mem (by omega))
    rw [List.take_succ_eq_append_getElem (by omega)]
    have e : Lib.bytesOf (xs.take m ++ [xs[m]]) = Lib.bytesOf (xs.take m) ++ [UInt8.ofNat xs[m].toNat] := by rw [Lib.bytesOf, List.map_append]; rfl
    rw [e, count_snoc, Int.natCast_add, ih]
    have hg : xs.getD m 0 = xs[m] := by simp [List.getD_eq_getElem?_getD, show m < xs.length by omega]
    rw [cntN, hg]
    congr 1
    by_cases h10 : xs[m] = 10
    · rw [if_pos h10, if_pos (by rw [h10])]; rfl
    · rw [if_neg h10, if_neg]; · rfl
      intro he
      have := congrArg UInt8.toNat he
      simp [Nat.toUInt8] at this
      omega
end Go.Proofs.Qxb6000769a
