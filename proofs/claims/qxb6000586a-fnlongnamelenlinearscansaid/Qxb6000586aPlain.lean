import Derived.Lib.IndexLaws
import Derived.Lib.Bytes
namespace Go.Proofs.Qxb6000586a

/-- r is where the name ends: the first quote or backslash at place 8 or later, else the length. -/
def IsEnd (xs : List Int) (r : Nat) : Prop :=
  r ≤ xs.length ∧ (∀ j, 8 ≤ j → j < r → xs.getD j 0 ≠ 34 ∧ xs.getD j 0 ≠ 92) ∧ (r < xs.length → 8 ≤ r ∧ (xs.getD r 0 = 34 ∨ xs.getD r 0 = 92))

theorem IsEnd.uniq {xs : List Int} {r s : Nat} (h : IsEnd xs r) (k : IsEnd xs s) : r = s := by
  obtain ⟨h1, h2, h3⟩ := h
  obtain ⟨k1, k2, k3⟩ := k
  rcases Nat.lt_trichotomy r s with hlt | heq | hgt
  · obtain ⟨a, b⟩ := h3 (by omega)
    have := k2 r a hlt
    omega
  · exact heq
  · obtain ⟨a, b⟩ := k3 (by omega)
    have := h2 s a hgt
    omega

/-- No quote and no backslash at the places 8 .. m-1. -/
def Clean (xs : List Int) (m : Nat) : Prop := ∀ j, 8 ≤ j → j < m → j < xs.length → xs.getD j 0 ≠ 34 ∧ xs.getD j 0 ≠ 92

theorem clean_start (xs : List Int) : Clean xs 8 := fun j h1 h2 _ => by omega

theorem clean_succ {xs : List Int} {m : Nat} (h : Clean xs m) (h1 : xs.getD m 0 ≠ 34) (h2 : xs.getD m 0 ≠ 92) : Clean xs (m + 1) := by
  intro j a b c
  by_cases e : j = m
  · subst e; exact ⟨h1, h2⟩
  · exact h j a (by omega) c

theorem end_of_clean {xs : List Int} {m : Nat} (h : Clean xs m) (hm : xs.length ≤ m) : IsEnd xs xs.length :=
  ⟨Nat.le_refl _, fun j a b => h j a (by omega) b, fun x => absurd x (by omega)⟩

theorem end_at {xs : List Int} {m : Nat} (h : Clean xs m) (h8 : 8 ≤ m) (hm : m < xs.length) (hq : xs.getD m 0 = 34 ∨ xs.getD m 0 = 92) : IsEnd xs m :=
  ⟨by omega, fun j a b => h j a b (by omega), fun _ => ⟨h8, hq⟩⟩

/-- A window's answer. -/
theorem idx_cases (ys : List Int) (hw : ∀ y ∈ ys, 0 ≤ y ∧ y ≤ 255) (c : Int) (h0 : 0 ≤ c) (hc : c ≤ 255) :
    (Lib.indexByte (Lib.bytesOf ys) c.toNat.toUInt8 = -1 ∧ ∀ j, j < ys.length → ys.getD j 0 ≠ c) ∨
    ∃ o : Nat, Lib.indexByte (Lib.bytesOf ys) c.toNat.toUInt8 = o ∧ o < ys.length ∧ ys.getD o 0 = c ∧ ∀ j, j < o → ys.getD j 0 ≠ c := by
  have hge := Lib.indexByte_ge (Lib.bytesOf ys) c.toNat.toUInt8
  have key : ∀ j, j < ys.length → ((Lib.bytesOf ys)[j]? = some (c.toNat.toUInt8) ↔ ys.getD j 0 = c) := by
    intro j hj
    have hm := hw ys[j] (List.getElem_mem hj)
    simp only [Lib.bytesOf, List.getElem?_map, List.getElem?_eq_getElem hj, Option.map_some, Option.some.injEq, List.getD_eq_getElem?_getD, Option.getD_some]
    constructor
    · intro h
      have := congrArg UInt8.toNat h
      simp [Nat.toUInt8] at this
      omega
    · intro h
      rw [h]
  by_cases h : Lib.indexByte (Lib.bytesOf ys) c.toNat.toUInt8 = -1
  · left
    refine ⟨h, fun j hj e => ?_⟩
    exact Lib.indexByte_none h j ((key j hj).2 e)
  · right
    obtain ⟨o, ho⟩ : ∃ o : Nat, Lib.indexByte (Lib.bytesOf ys) c.toNat.toUInt8 = o := ⟨(Lib.indexByte (Lib.bytesOf ys) c.toNat.toUInt8).toNat, by omega⟩
    obtain ⟨h1, h2⟩ := Lib.indexByte_some ho
    have hl : o < ys.length := by
      have := (List.getElem?_eq_some_iff.1 h1).1
      simpa [Lib.bytesOf] using this
    exact ⟨o, ho, hl, (key o hl).1 h1, fun j hj e => h2 j hj ((key j (by omega)).2 e)⟩

/-- The window at place s, n wide. -/
def win (xs : List Int) (s n : Nat) : List Int := (xs.drop s).take n

theorem win_len (xs : List Int) (s n : Nat) (h : s + n ≤ xs.length) : (win xs s n).length = n := by
  unfold win; simp; omega
theorem win_get (xs : List Int) (s n j : Nat) (hj : j < n) : (win xs s n).getD j 0 = xs.getD (s + j) 0 := by
  unfold win
  simp [List.getD_eq_getElem?_getD, hj]
theorem win_wf {xs : List Int} (hw : ∀ y ∈ xs, 0 ≤ y ∧ y ≤ 255) (s n : Nat) : ∀ y ∈ win xs s n, 0 ≤ y ∧ y ≤ 255 :=
  fun y hy => hw y (List.mem_of_mem_drop (List.mem_of_mem_take hy))

theorem clean_win {xs : List Int} {s n : Nat} (h : Clean xs s)
    (h1 : ∀ j, j < n → (win xs s n).getD j 0 ≠ 34) (h2 : ∀ j, j < n → (win xs s n).getD j 0 ≠ 92) : Clean xs (s + n) := by
  intro j a b c
  by_cases e : j < s
  · exact h j a e c
  · have q1 := h1 (j - s) (by omega)
    have q2 := h2 (j - s) (by omega)
    rw [win_get _ _ _ _ (by omega), show s + (j - s) = j by omega] at q1 q2
    exact ⟨q1, q2⟩
theorem end_win {xs : List Int} {s n : Nat} (h : Clean xs s) (h8 : 8 ≤ s) (hn : s + n < xs.length)
    (h1 : ∀ j, j < n → xs.getD (s + j) 0 ≠ 34) (h2 : ∀ j, j < n → xs.getD (s + j) 0 ≠ 92) (hq : xs.getD (s + n) 0 = 34 ∨ xs.getD (s + n) 0 = 92) : IsEnd xs (s + n) :=
  end_at (clean_win h (fun j hj => by rw [win_get _ _ _ _ hj]; exact h1 j hj) (fun j hj => by rw [win_get _ _ _ _ hj]; exact h2 j hj)) (by omega) hn hq
theorem clean_on {xs : List Int} {s m : Nat} (h : Clean xs (s + m)) (hm : m < 256 → s + m = xs.length) (h3 : m ≤ 256) : Clean xs (s + 256) := by
  intro j a b c
  exact h j a (by omega) c
end Go.Proofs.Qxb6000586a
