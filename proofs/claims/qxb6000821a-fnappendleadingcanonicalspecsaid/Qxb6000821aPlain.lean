import Derived.Lib.Bytealg
namespace Go.Proofs.Qxb6000821a

/-- Is S the start of the name l? -/
def pre (l S : List UInt8) : Bool := S.isPrefixOf l
/-- What 'at' holds while S is spelled; what the bytes behind 'dst' are. -/
def atOf (l S : List UInt8) : Int := if pre l S = true then (S.length : Int) else -1
def hold (D l S : List UInt8) : List UInt8 := if pre l S = true then D else D ++ S

theorem pre_iff {l S : List UInt8} : pre l S = true ↔ S <+: l := List.isPrefixOf_iff_prefix
theorem pre_nil (l : List UInt8) : pre l [] = true := by simp [pre]
theorem pre_le {l S : List UInt8} (h : pre l S = true) : S.length ≤ l.length := (pre_iff.1 h).length_le
theorem pre_take {l S : List UInt8} (h : pre l S = true) : S = l.take S.length := List.prefix_iff_eq_take.1 (pre_iff.1 h)
theorem pre_left {l S X : List UInt8} (h : pre l (S ++ X) = true) : pre l S = true :=
  pre_iff.2 ((List.prefix_append S X).trans (pre_iff.1 h))
theorem pre_left_no {l S : List UInt8} (X : List UInt8) (h : pre l S = false) : pre l (S ++ X) = false := by
  cases hx : pre l (S ++ X) with
  | false => rfl
  | true => rw [pre_left hx] at h; cases h
theorem pre_get {l S : List UInt8} (h : pre l S = true) {j : Nat} (hj : j < S.length) : l[j]? = S[j]? := by
  obtain ⟨r, rfl⟩ := pre_iff.1 h
  rw [List.getElem?_append_left hj]
theorem pre_snoc {l S : List UInt8} {c : UInt8} (h : pre l S = true) (hc : l[S.length]? = some c) : pre l (S ++ [c]) = true := by
  obtain ⟨r, rfl⟩ := pre_iff.1 h
  rw [List.getElem?_append_right (Nat.le_refl _), Nat.sub_self] at hc
  cases r with
  | nil => simp at hc
  | cons d r =>
    simp at hc
    subst hc
    exact pre_iff.2 ⟨r, by simp⟩
theorem pre_snoc_no {l S : List UInt8} {c : UInt8} (hc : l[S.length]? ≠ some c) : pre l (S ++ [c]) = false := by
  cases hx : pre l (S ++ [c]) with
  | false => rfl
  | true =>
    have := pre_get hx (j := S.length) (by simp)
    simp at this
    exact absurd this hc
theorem atOf_yes {l S : List UInt8} (h : pre l S = true) : atOf l S = (S.length : Int) := by simp [atOf, h]
theorem atOf_no {l S : List UInt8} (h : pre l S = false) : atOf l S = -1 := by simp [atOf, h]
theorem hold_yes {D l S : List UInt8} (h : pre l S = true) : hold D l S = D := by simp [hold, h]
theorem hold_no {D l S : List UInt8} (h : pre l S = false) : hold D l S = D ++ S := by simp [hold, h]
theorem hold_le (D l S : List UInt8) : (hold D l S).length ≤ D.length + S.length := by
  unfold hold; split <;> simp
/-- What is held only grows at its end while more is spelled. -/
theorem hold_grows (D l S X : List UInt8) : hold D l S <+: hold D l (S ++ X) := by
  cases hx : pre l (S ++ X) with
  | true => rw [hold_yes hx, hold_yes (pre_left hx)]; exact List.prefix_refl _
  | false =>
    rw [hold_no hx]
    cases hs : pre l S with
    | true => rw [hold_yes hs]; exact List.prefix_append _ _
    | false => rw [hold_no hs, ← List.append_assoc]; exact List.prefix_append _ _
end Go.Proofs.Qxb6000821a
