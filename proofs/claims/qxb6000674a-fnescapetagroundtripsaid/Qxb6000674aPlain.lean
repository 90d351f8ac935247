import Derived.Lib.Bytealg
namespace Go.Proofs.Qxb6000674a

def setL : List UInt8 := [59, 47, 63, 58, 64, 38, 61, 43, 36, 44, 46, 126, 42, 39, 40, 41, 91, 93]
def wordB (c : UInt8) : Bool := (decide (48 ≤ c.toNat) && decide (c.toNat ≤ 57)) || (decide (65 ≤ c.toNat) && decide (c.toNat ≤ 90)) || (decide (97 ≤ c.toNat) && decide (c.toNat ≤ 122)) || c.toNat == 95 || c.toNat == 45
def safeB (c : UInt8) : Bool := wordB c || decide (0 ≤ Lib.indexByte setL c)
def hexD (n : Nat) : UInt8 := if n < 10 then UInt8.ofNat (48 + n) else UInt8.ofNat (55 + n)
def escB (c : UInt8) : List UInt8 := if safeB c = true then [c] else [37, hexD (c.toNat / 16), hexD (c.toNat % 16)]
def esc (l : List UInt8) : List UInt8 := l.flatMap escB

theorem byteAll (p : UInt8 → Bool) (h : ∀ n : Fin 256, p (UInt8.ofNat n.val) = true) (c : UInt8) : p c = true := by
  have := h ⟨c.toNat, c.toNat_lt⟩
  simpa using this

theorem safe_range (c : UInt8) : safeB c = true → 33 ≤ c.toNat ∧ c.toNat ≤ 126 ∧ c.toNat ≠ 37 := by
  have h := byteAll (fun c => !safeB c || (decide (33 ≤ c.toNat) && decide (c.toNat ≤ 126) && decide (c.toNat ≠ 37))) (by decide +kernel) c
  intro hs
  simp [hs] at h
  omega

theorem hexD_range (n : Nat) (h : n < 16) : 33 ≤ (hexD n).toNat ∧ (hexD n).toNat ≤ 126 := by
  have : ∀ n : Fin 16, 33 ≤ (hexD n.val).toNat ∧ (hexD n.val).toNat ≤ 126 := by decide +kernel
  exact this ⟨n, h⟩

theorem escB_range (c : UInt8) : ∀ d ∈ escB c, 33 ≤ d.toNat ∧ d.toNat ≤ 126 := by
  intro d hd
  unfold escB at hd
  split at hd
  · rename_i h
    simp at hd
    subst hd
    have := safe_range _ h
    omega
  · have h1 := hexD_range (c.toNat / 16) (by have := c.toNat_lt; omega)
    have h2 := hexD_range (c.toNat % 16) (by omega)
    simp at hd
    rcases hd with rfl | rfl | rfl
    · decide
    · exact h1
    · exact h2

theorem esc_range (l : List UInt8) : ∀ d ∈ esc l, 33 ≤ d.toNat ∧ d.toNat ≤ 126 := by
  intro d hd
  obtain ⟨c, _, hc⟩ := List.mem_flatMap.1 hd
  exact escB_range c d hc

theorem escB_len (c : UInt8) : 1 ≤ (escB c).length ∧ (escB c).length ≤ 3 := by
  unfold escB; split <;> simp

theorem esc_len (l : List UInt8) : l.length ≤ (esc l).length ∧ (esc l).length ≤ 3 * l.length := by
  induction l with
  | nil => simp [esc]
  | cons c l ih =>
    have := escB_len c
    simp [esc] at ih ⊢
    omega

theorem esc_append (a b : List UInt8) : esc (a ++ b) = esc a ++ esc b := by simp [esc]
theorem esc_snoc (l : List UInt8) (c : UInt8) : esc (l ++ [c]) = esc l ++ escB c := by simp [esc]

theorem take_snoc (l : List UInt8) (k : Nat) (h : k < l.length) : l.take (k + 1) = l.take k ++ [l[k]] := by
  rw [List.take_succ_eq_append_getElem h]

theorem esc_take (l : List UInt8) (k : Nat) (h : k < l.length) : esc (l.take (k + 1)) = esc (l.take k) ++ escB l[k] := by
  rw [take_snoc l k h, esc_snoc]

/-- What stands at the place behind the first k bytes' escapes. -/
theorem esc_split (l : List UInt8) (k : Nat) (h : k < l.length) : esc l = esc (l.take k) ++ (escB l[k] ++ esc (l.drop (k + 1))) := by
  have e : l = l.take k ++ ([l[k]] ++ l.drop (k + 1)) := by
    conv => lhs; rw [← List.take_append_drop k l, List.drop_eq_getElem_cons h]
    simp
  exact (congrArg esc e).trans (by rw [esc_append, esc_append, show esc [l[k]] = escB l[k] by simp [esc]])

theorem esc_at (l : List UInt8) (k : Nat) (h : k < l.length) (j : Nat) (hj : j < (escB l[k]).length) : (esc l)[(esc (l.take k)).length + j]? = (escB l[k])[j]? := by
  rw [esc_split l k h, List.getElem?_append_right (by omega), Nat.add_sub_cancel_left, List.getElem?_append_left hj]

theorem esc_end (l : List UInt8) (k : Nat) (h : k < l.length) : (esc (l.take k)).length + (escB l[k]).length ≤ (esc l).length := by
  rw [esc_split l k h]; simp

def hexV (n : Nat) : Int := if 48 ≤ n ∧ n ≤ 57 then (n : Int) - 48 else if 65 ≤ n ∧ n ≤ 70 then (n : Int) - 55 else -1

theorem hexV_hexD (n : Nat) (h : n < 16) : hexV (hexD n).toNat = n := by
  have : ∀ n : Fin 16, hexV (hexD n.val).toNat = (n.val : Int) := by decide +kernel
  exact this ⟨n, h⟩
/-- The classes of a byte, as the tests on the road tell them. -/
theorem classes (c : UInt8) :
    ((48 : Int) ≤ c.toNat ∧ (c.toNat : Int) ≤ 57) ∨ ((65 : Int) ≤ c.toNat ∧ (c.toNat : Int) ≤ 90) ∨ ((97 : Int) ≤ c.toNat ∧ (c.toNat : Int) ≤ 122) ∨ ((c.toNat : Int) = 95) ∨ ((c.toNat : Int) = 45) ∨
    (wordB c = false ∧ ((c.toNat : Int) == 95) = false ∧ ((c.toNat : Int) == 45) = false ∧
      ((c.toNat : Int) ≤ 47 ∨ ((58 : Int) ≤ c.toNat ∧ (c.toNat : Int) ≤ 64) ∨ ((91 : Int) ≤ c.toNat ∧ (c.toNat : Int) ≤ 96) ∨ ((123 : Int) ≤ c.toNat))) := by
  by_cases h1 : 48 ≤ c.toNat ∧ c.toNat ≤ 57
  · left; omega
  · by_cases h2 : 65 ≤ c.toNat ∧ c.toNat ≤ 90
    · right; left; omega
    · by_cases h3 : 97 ≤ c.toNat ∧ c.toNat ≤ 122
      · right; right; left; omega
      · by_cases h4 : c.toNat = 95
        · right; right; right; left; omega
        · by_cases h5 : c.toNat = 45
          · right; right; right; right; left; omega
          · right; right; right; right; right
            refine ⟨?_, ?_, ?_, by omega⟩
            · simp [wordB, h4, h5]; omega
            · rw [beq_eq_false_iff_ne]; omega
            · rw [beq_eq_false_iff_ne]; omega

theorem safe_of_word {c : UInt8} (h : wordB c = true) : safeB c = true := by simp [safeB, h]
theorem safe_of_set {c : UInt8} (h : 0 ≤ Lib.indexByte setL c) : safeB c = true := by simp [safeB, h]
theorem not_safe {c : UInt8} (h : wordB c = false) (h2 : ¬ 0 ≤ Lib.indexByte setL c) : safeB c = false := by simp [safeB, h, h2]
theorem escB_safe {c : UInt8} (h : safeB c = true) : escB c = [c] := by simp [escB, h]
theorem escB_not {c : UInt8} (h : safeB c = false) : escB c = [37, hexD (c.toNat / 16), hexD (c.toNat % 16)] := by simp [escB, h]
theorem word1 {c : UInt8} (h1 : (48 : Int) ≤ c.toNat) (h2 : (c.toNat : Int) ≤ 57) : wordB c = true := by simp [wordB]; omega
theorem word2 {c : UInt8} (h1 : (65 : Int) ≤ c.toNat) (h2 : (c.toNat : Int) ≤ 90) : wordB c = true := by simp [wordB]; omega
theorem word3 {c : UInt8} (h1 : (97 : Int) ≤ c.toNat) (h2 : (c.toNat : Int) ≤ 122) : wordB c = true := by simp [wordB]; omega
theorem word4 {c : UInt8} (h1 : (c.toNat : Int) = 95) : wordB c = true := by simp [wordB]; omega
theorem word5 {c : UInt8} (h1 : (c.toNat : Int) = 45) : wordB c = true := by simp [wordB]; omega
end Go.Proofs.Qxb6000674a
