import Derived.Test.Qxb6000821aTabP
namespace Go.Proofs.Qxb6000821a
open Go.RowKit

/-- A byte of the canonical form's names, by its number. -/
def canB (i : Nat) : Bool := (decide (97 ≤ i) && decide (i ≤ 122)) || (decide (65 ≤ i) && decide (i ≤ 90)) || (decide (48 ≤ i) && decide (i ≤ 57)) || decide (i = 45) || decide (i = 46) || decide (i = 91) || decide (i = 93)
/-- A byte of a spelling. -/
def spB (i : Nat) : Bool := (decide (97 ≤ i) && decide (i ≤ 122)) || (decide (48 ≤ i) && decide (i ≤ 57)) || decide (i = 46) || decide (i = 91) || decide (i = 93)

theorem ranges2 (i : Nat) : i ≤ 44 ∨ i = 45 ∨ i = 46 ∨ i = 47 ∨ (48 ≤ i ∧ i ≤ 57) ∨ (58 ≤ i ∧ i ≤ 64) ∨ (65 ≤ i ∧ i ≤ 90) ∨ i = 91 ∨ i = 92 ∨ i = 93 ∨ (94 ≤ i ∧ i ≤ 96) ∨ (97 ≤ i ∧ i ≤ 122) ∨ 123 ≤ i := by omega

set_option maxHeartbeats 4000000 in
theorem canonByte_any (i : Nat) (w : World) :
    Calls Try.prog 21 #[.int .u8 i] w fun e w' => e = .returned (.bool (canB i)) ∧ w' = w := by
  rcases ranges2 i with h | h | h | h | h | h | h | h | h | h | h | h | h
  · first | have c1 : (97 : Int) ≤ (i : Int) := by omega | have c1 : ¬ (97 : Int) ≤ (i : Int) := by omega
    first | have c2 : (i : Int) ≤ 122 := by omega | have c2 : ¬ (i : Int) ≤ 122 := by omega
    first | have c3 : (65 : Int) ≤ (i : Int) := by omega | have c3 : ¬ (65 : Int) ≤ (i : Int) := by omega
    first | have c4 : (i : Int) ≤ 90 := by omega | have c4 : ¬ (i : Int) ≤ 90 := by omega
    have c5 : ((i : Int) == 45) = false := by (rw [beq_eq_false_iff_ne]; omega)
    have c6 : ((i : Int) == 46) = false := by (rw [beq_eq_false_iff_ne]; omega)
    have c7 : ((i : Int) == 91) = false := by (rw [beq_eq_false_iff_ne]; omega)
    have c8 : ((i : Int) == 93) = false := by (rw [beq_eq_false_iff_ne]; omega)
    first | (have hv : canB i = true := by (unfold canB; simp; omega)) | (have hv : canB i = false := by (unfold canB; simp; omega))
    rw [hv]
    clear hv
    first | have hdg := isDigit_any i true (by simp; omega) | have hdg := isDigit_any i false (by simp; omega)
    go_enter Try.func21, Try.ntmps21
    go_wp2_with (go_at_call 26; refine (hdg _).mono ?_; rintro e w' ⟨rfl, rfl⟩)
    go_ret
    exact ⟨rfl, rfl⟩
  · subst h
    have hdg := isDigit_any 45 false (by decide)
    go_enter Try.func21, Try.ntmps21
    go_wp2_with (go_at_call 26; refine (hdg _).mono ?_; rintro e w' ⟨rfl, rfl⟩)
    go_ret
    exact ⟨rfl, rfl⟩
  · subst h
    have hdg := isDigit_any 46 false (by decide)
    go_enter Try.func21, Try.ntmps21
    go_wp2_with (go_at_call 26; refine (hdg _).mono ?_; rintro e w' ⟨rfl, rfl⟩)
    go_ret
    exact ⟨rfl, rfl⟩
  · subst h
    have hdg := isDigit_any 47 false (by decide)
    go_enter Try.func21, Try.ntmps21
    go_wp2_with (go_at_call 26; refine (hdg _).mono ?_; rintro e w' ⟨rfl, rfl⟩)
    go_ret
    exact ⟨rfl, rfl⟩
  · first | have c1 : (97 : Int) ≤ (i : Int) := by omega | have c1 : ¬ (97 : Int) ≤ (i : Int) := by omega
    first | have c2 : (i : Int) ≤ 122 := by omega | have c2 : ¬ (i : Int) ≤ 122 := by omega
    first | have c3 : (65 : Int) ≤ (i : Int) := by omega | have c3 : ¬ (65 : Int) ≤ (i : Int) := by omega
    first | have c4 : (i : Int) ≤ 90 := by omega | have c4 : ¬ (i : Int) ≤ 90 := by omega
    have c5 : ((i : Int) == 45) = false := by (rw [beq_eq_false_iff_ne]; omega)
    have c6 : ((i : Int) == 46) = false := by (rw [beq_eq_false_iff_ne]; omega)
    have c7 : ((i : Int) == 91) = false := by (rw [beq_eq_false_iff_ne]; omega)
    have c8 : ((i : Int) == 93) = false := by (rw [beq_eq_false_iff_ne]; omega)
    first | (have hv : canB i = true := by (unfold canB; simp; omega)) | (have hv : canB i = false := by (unfold canB; simp; omega))
    rw [hv]
    clear hv
    first | have hdg := isDigit_any i true (by simp; omega) | have hdg := isDigit_any i false (by simp; omega)
    go_enter Try.func21, Try.ntmps21
    go_wp2_with (go_at_call 26; refine (hdg _).mono ?_; rintro e w' ⟨rfl, rfl⟩)
    go_ret
    exact ⟨rfl, rfl⟩
  · first | have c1 : (97 : Int) ≤ (i : Int) := by omega | have c1 : ¬ (97 : Int) ≤ (i : Int) := by omega
    first | have c2 : (i : Int) ≤ 122 := by omega | have c2 : ¬ (i : Int) ≤ 122 := by omega
    first | have c3 : (65 : Int) ≤ (i : Int) := by omega | have c3 : ¬ (65 : Int) ≤ (i : Int) := by omega
    first | have c4 : (i : Int) ≤ 90 := by omega | have c4 : ¬ (i : Int) ≤ 90 := by omega
    have c5 : ((i : Int) == 45) = false := by (rw [beq_eq_false_iff_ne]; omega)
    have c6 : ((i : Int) == 46) = false := by (rw [beq_eq_false_iff_ne]; omega)
    have c7 : ((i : Int) == 91) = false := by (rw [beq_eq_false_iff_ne]; omega)
    have c8 : ((i : Int) == 93) = false := by (rw [beq_eq_false_iff_ne]; omega)
    first | (have hv : canB i = true := by (unfold canB; simp; omega)) | (have hv : canB i = false := by (unfold canB; simp; omega))
    rw [hv]
    clear hv
    first | have hdg := isDigit_any i true (by simp; omega) | have hdg := isDigit_any i false (by simp; omega)
    go_enter Try.func21, Try.ntmps21
    go_wp2_with (go_at_call 26; refine (hdg _).mono ?_; rintro e w' ⟨rfl, rfl⟩)
    go_ret
    exact ⟨rfl, rfl⟩
  · first | have c1 : (97 : Int) ≤ (i : Int) := by omega | have c1 : ¬ (97 : Int) ≤ (i : Int) := by omega
    first | have c2 : (i : Int) ≤ 122 := by omega | have c2 : ¬ (i : Int) ≤ 122 := by omega
    first | have c3 : (65 : Int) ≤ (i : Int) := by omega | have c3 : ¬ (65 : Int) ≤ (i : Int) := by omega
    first | have c4 : (i : Int) ≤ 90 := by omega | have c4 : ¬ (i : Int) ≤ 90 := by omega
    have c5 : ((i : Int) == 45) = false := by (rw [beq_eq_false_iff_ne]; omega)
    have c6 : ((i : Int) == 46) = false := by (rw [beq_eq_false_iff_ne]; omega)
    have c7 : ((i : Int) == 91) = false := by (rw [beq_eq_false_iff_ne]; omega)
    have c8 : ((i : Int) == 93) = false := by (rw [beq_eq_false_iff_ne]; omega)
    first | (have hv : canB i = true := by (unfold canB; simp; omega)) | (have hv : canB i = false := by (unfold canB; simp; omega))
    rw [hv]
    clear hv
    first | have hdg := isDigit_any i true (by simp; omega) | have hdg := isDigit_any i false (by simp; omega)
    go_enter Try.func21, Try.ntmps21
    go_wp2_with (go_at_call 26; refine (hdg _).mono ?_; rintro e w' ⟨rfl, rfl⟩)
    go_ret
    exact ⟨rfl, rfl⟩
  · subst h
    have hdg := isDigit_any 91 false (by decide)
    go_enter Try.func21, Try.ntmps21
    go_wp2_with (go_at_call 26; refine (hdg _).mono ?_; rintro e w' ⟨rfl, rfl⟩)
    go_ret
    exact ⟨rfl, rfl⟩
  · subst h
    have hdg := isDigit_any 92 false (by decide)
    go_enter Try.func21, Try.ntmps21
    go_wp2_with (go_at_call 26; refine (hdg _).mono ?_; rintro e w' ⟨rfl, rfl⟩)
    go_ret
    exact ⟨rfl, rfl⟩
  · subst h
    have hdg := isDigit_any 93 false (by decide)
    go_enter Try.func21, Try.ntmps21
    go_wp2_with (go_at_call 26; refine (hdg _).mono ?_; rintro e w' ⟨rfl, rfl⟩)
    go_ret
    exact ⟨rfl, rfl⟩
  · first | have c1 : (97 : Int) ≤ (i : Int) := by omega | have c1 : ¬ (97 : Int) ≤ (i : Int) := by omega
    first | have c2 : (i : Int) ≤ 122 := by omega | have c2 : ¬ (i : Int) ≤ 122 := by omega
    first | have c3 : (65 : Int) ≤ (i : Int) := by omega | have c3 : ¬ (65 : Int) ≤ (i : Int) := by omega
    first | have c4 : (i : Int) ≤ 90 := by omega | have c4 : ¬ (i : Int) ≤ 90 := by omega
    have c5 : ((i : Int) == 45) = false := by (rw [beq_eq_false_iff_ne]; omega)
    have c6 : ((i : Int) == 46) = false := by (rw [beq_eq_false_iff_ne]; omega)
    have c7 : ((i : Int) == 91) = false := by (rw [beq_eq_false_iff_ne]; omega)
    have c8 : ((i : Int) == 93) = false := by (rw [beq_eq_false_iff_ne]; omega)
    first | (have hv : canB i = true := by (unfold canB; simp; omega)) | (have hv : canB i = false := by (unfold canB; simp; omega))
    rw [hv]
    clear hv
    first | have hdg := isDigit_any i true (by simp; omega) | have hdg := isDigit_any i false (by simp; omega)
    go_enter Try.func21, Try.ntmps21
    go_wp2_with (go_at_call 26; refine (hdg _).mono ?_; rintro e w' ⟨rfl, rfl⟩)
    go_ret
    exact ⟨rfl, rfl⟩
  · first | have c1 : (97 : Int) ≤ (i : Int) := by omega | have c1 : ¬ (97 : Int) ≤ (i : Int) := by omega
    first | have c2 : (i : Int) ≤ 122 := by omega | have c2 : ¬ (i : Int) ≤ 122 := by omega
    first | have c3 : (65 : Int) ≤ (i : Int) := by omega | have c3 : ¬ (65 : Int) ≤ (i : Int) := by omega
    first | have c4 : (i : Int) ≤ 90 := by omega | have c4 : ¬ (i : Int) ≤ 90 := by omega
    have c5 : ((i : Int) == 45) = false := by (rw [beq_eq_false_iff_ne]; omega)
    have c6 : ((i : Int) == 46) = false := by (rw [beq_eq_false_iff_ne]; omega)
    have c7 : ((i : Int) == 91) = false := by (rw [beq_eq_false_iff_ne]; omega)
    have c8 : ((i : Int) == 93) = false := by (rw [beq_eq_false_iff_ne]; omega)
    first | (have hv : canB i = true := by (unfold canB; simp; omega)) | (have hv : canB i = false := by (unfold canB; simp; omega))
    rw [hv]
    clear hv
    first | have hdg := isDigit_any i true (by simp; omega) | have hdg := isDigit_any i false (by simp; omega)
    go_enter Try.func21, Try.ntmps21
    go_wp2_with (go_at_call 26; refine (hdg _).mono ?_; rintro e w' ⟨rfl, rfl⟩)
    go_ret
    exact ⟨rfl, rfl⟩
  · first | have c1 : (97 : Int) ≤ (i : Int) := by omega | have c1 : ¬ (97 : Int) ≤ (i : Int) := by omega
    first | have c2 : (i : Int) ≤ 122 := by omega | have c2 : ¬ (i : Int) ≤ 122 := by omega
    first | have c3 : (65 : Int) ≤ (i : Int) := by omega | have c3 : ¬ (65 : Int) ≤ (i : Int) := by omega
    first | have c4 : (i : Int) ≤ 90 := by omega | have c4 : ¬ (i : Int) ≤ 90 := by omega
    have c5 : ((i : Int) == 45) = false := by (rw [beq_eq_false_iff_ne]; omega)
    have c6 : ((i : Int) == 46) = false := by (rw [beq_eq_false_iff_ne]; omega)
    have c7 : ((i : Int) == 91) = false := by (rw [beq_eq_false_iff_ne]; omega)
    have c8 : ((i : Int) == 93) = false := by (rw [beq_eq_false_iff_ne]; omega)
    first | (have hv : canB i = true := by (unfold canB; simp; omega)) | (have hv : canB i = false := by (unfold canB; simp; omega))
    rw [hv]
    clear hv
    first | have hdg := isDigit_any i true (by simp; omega) | have hdg := isDigit_any i false (by simp; omega)
    go_enter Try.func21, Try.ntmps21
    go_wp2_with (go_at_call 26; refine (hdg _).mono ?_; rintro e w' ⟨rfl, rfl⟩)
    go_ret
    exact ⟨rfl, rfl⟩

set_option maxHeartbeats 4000000 in
theorem spByte_any (i : Nat) (w : World) :
    Calls Try.prog 22 #[.int .u8 i] w fun e w' => e = .returned (.bool (spB i)) ∧ w' = w := by
  rcases ranges2 i with h | h | h | h | h | h | h | h | h | h | h | h | h
  · first | have c1 : (97 : Int) ≤ (i : Int) := by omega | have c1 : ¬ (97 : Int) ≤ (i : Int) := by omega
    first | have c2 : (i : Int) ≤ 122 := by omega | have c2 : ¬ (i : Int) ≤ 122 := by omega
    first | have c3 : (65 : Int) ≤ (i : Int) := by omega | have c3 : ¬ (65 : Int) ≤ (i : Int) := by omega
    first | have c4 : (i : Int) ≤ 90 := by omega | have c4 : ¬ (i : Int) ≤ 90 := by omega
    have c5 : ((i : Int) == 45) = false := by (rw [beq_eq_false_iff_ne]; omega)
    have c6 : ((i : Int) == 46) = false := by (rw [beq_eq_false_iff_ne]; omega)
    have c7 : ((i : Int) == 91) = false := by (rw [beq_eq_false_iff_ne]; omega)
    have c8 : ((i : Int) == 93) = false := by (rw [beq_eq_false_iff_ne]; omega)
    first | (have hv : spB i = true := by (unfold spB; simp; omega)) | (have hv : spB i = false := by (unfold spB; simp; omega))
    rw [hv]
    clear hv
    first | have hdg := isDigit_any i true (by simp; omega) | have hdg := isDigit_any i false (by simp; omega)
    go_enter Try.func22, Try.ntmps22
    go_wp2_with (go_at_call 26; refine (hdg _).mono ?_; rintro e w' ⟨rfl, rfl⟩)
    go_ret
    exact ⟨rfl, rfl⟩
  · subst h
    have hdg := isDigit_any 45 false (by decide)
    go_enter Try.func22, Try.ntmps22
    go_wp2_with (go_at_call 26; refine (hdg _).mono ?_; rintro e w' ⟨rfl, rfl⟩)
    go_ret
    exact ⟨rfl, rfl⟩
  · subst h
    have hdg := isDigit_any 46 false (by decide)
    go_enter Try.func22, Try.ntmps22
    go_wp2_with (go_at_call 26; refine (hdg _).mono ?_; rintro e w' ⟨rfl, rfl⟩)
    go_ret
    exact ⟨rfl, rfl⟩
  · subst h
    have hdg := isDigit_any 47 false (by decide)
    go_enter Try.func22, Try.ntmps22
    go_wp2_with (go_at_call 26; refine (hdg _).mono ?_; rintro e w' ⟨rfl, rfl⟩)
    go_ret
    exact ⟨rfl, rfl⟩
  · first | have c1 : (97 : Int) ≤ (i : Int) := by omega | have c1 : ¬ (97 : Int) ≤ (i : Int) := by omega
    first | have c2 : (i : Int) ≤ 122 := by omega | have c2 : ¬ (i : Int) ≤ 122 := by omega
    first | have c3 : (65 : Int) ≤ (i : Int) := by omega | have c3 : ¬ (65 : Int) ≤ (i : Int) := by omega
    first | have c4 : (i : Int) ≤ 90 := by omega | have c4 : ¬ (i : Int) ≤ 90 := by omega
    have c5 : ((i : Int) == 45) = false := by (rw [beq_eq_false_iff_ne]; omega)
    have c6 : ((i : Int) == 46) = false := by (rw [beq_eq_false_iff_ne]; omega)
    have c7 : ((i : Int) == 91) = false := by (rw [beq_eq_false_iff_ne]; omega)
    have c8 : ((i : Int) == 93) = false := by (rw [beq_eq_false_iff_ne]; omega)
    first | (have hv : spB i = true := by (unfold spB; simp; omega)) | (have hv : spB i = false := by (unfold spB; simp; omega))
    rw [hv]
    clear hv
    first | have hdg := isDigit_any i true (by simp; omega) | have hdg := isDigit_any i false (by simp; omega)
    go_enter Try.func22, Try.ntmps22
    go_wp2_with (go_at_call 26; refine (hdg _).mono ?_; rintro e w' ⟨rfl, rfl⟩)
    go_ret
    exact ⟨rfl, rfl⟩
  · first | have c1 : (97 : Int) ≤ (i : Int) := by omega | have c1 : ¬ (97 : Int) ≤ (i : Int) := by omega
    first | have c2 : (i : Int) ≤ 122 := by omega | have c2 : ¬ (i : Int) ≤ 122 := by omega
    first | have c3 : (65 : Int) ≤ (i : Int) := by omega | have c3 : ¬ (65 : Int) ≤ (i : Int) := by omega
    first | have c4 : (i : Int) ≤ 90 := by omega | have c4 : ¬ (i : Int) ≤ 90 := by omega
    have c5 : ((i : Int) == 45) = false := by (rw [beq_eq_false_iff_ne]; omega)
    have c6 : ((i : Int) == 46) = false := by (rw [beq_eq_false_iff_ne]; omega)
    have c7 : ((i : Int) == 91) = false := by (rw [beq_eq_false_iff_ne]; omega)
    have c8 : ((i : Int) == 93) = false := by (rw [beq_eq_false_iff_ne]; omega)
    first | (have hv : spB i = true := by (unfold spB; simp; omega)) | (have hv : spB i = false := by (unfold spB; simp; omega))
    rw [hv]
    clear hv
    first | have hdg := isDigit_any i true (by simp; omega) | have hdg := isDigit_any i false (by simp; omega)
    go_enter Try.func22, Try.ntmps22
    go_wp2_with (go_at_call 26; refine (hdg _).mono ?_; rintro e w' ⟨rfl, rfl⟩)
    go_ret
    exact ⟨rfl, rfl⟩
  · first | have c1 : (97 : Int) ≤ (i : Int) := by omega | have c1 : ¬ (97 : Int) ≤ (i : Int) := by omega
    first | have c2 : (i : Int) ≤ 122 := by omega | have c2 : ¬ (i : Int) ≤ 122 := by omega
    first | have c3 : (65 : Int) ≤ (i : Int) := by omega | have c3 : ¬ (65 : Int) ≤ (i : Int) := by omega
    first | have c4 : (i : Int) ≤ 90 := by omega | have c4 : ¬ (i : Int) ≤ 90 := by omega
    have c5 : ((i : Int) == 45) = false := by (rw [beq_eq_false_iff_ne]; omega)
    have c6 : ((i : Int) == 46) = false := by (rw [beq_eq_false_iff_ne]; omega)
    have c7 : ((i : Int) == 91) = false := by (rw [beq_eq_false_iff_ne]; omega)
    have c8 : ((i : Int) == 93) = false := by (rw [beq_eq_false_iff_ne]; omega)
    first | (have hv : spB i = true := by (unfold spB; simp; omega)) | (have hv : spB i = false := by (unfold spB; simp; omega))
    rw [hv]
    clear hv
    first | have hdg := isDigit_any i true (by simp; omega) | have hdg := isDigit_any i false (by simp; omega)
    go_enter Try.func22, Try.ntmps22
    go_wp2_with (go_at_call 26; refine (hdg _).mono ?_; rintro e w' ⟨rfl, rfl⟩)
    go_ret
    exact ⟨rfl, rfl⟩
  · subst h
    have hdg := isDigit_any 91 false (by decide)
    go_enter Try.func22, Try.ntmps22
    go_wp2_with (go_at_call 26; refine (hdg _).mono ?_; rintro e w' ⟨rfl, rfl⟩)
    go_ret
    exact ⟨rfl, rfl⟩
  · subst h
    have hdg := isDigit_any 92 false (by decide)
    go_enter Try.func22, Try.ntmps22
    go_wp2_with (go_at_call 26; refine (hdg _).mono ?_; rintro e w' ⟨rfl, rfl⟩)
    go_ret
    exact ⟨rfl, rfl⟩
  · subst h
    have hdg := isDigit_any 93 false (by decide)
    go_enter Try.func22, Try.ntmps22
    go_wp2_with (go_at_call 26; refine (hdg _).mono ?_; rintro e w' ⟨rfl, rfl⟩)
    go_ret
    exact ⟨rfl, rfl⟩
  · first | have c1 : (97 : Int) ≤ (i : Int) := by omega | have c1 : ¬ (97 : Int) ≤ (i : Int) := by omega
    first | have c2 : (i : Int) ≤ 122 := by omega | have c2 : ¬ (i : Int) ≤ 122 := by omega
    first | have c3 : (65 : Int) ≤ (i : Int) := by omega | have c3 : ¬ (65 : Int) ≤ (i : Int) := by omega
    first | have c4 : (i : Int) ≤ 90 := by omega | have c4 : ¬ (i : Int) ≤ 90 := by omega
    have c5 : ((i : Int) == 45) = false := by (rw [beq_eq_false_iff_ne]; omega)
    have c6 : ((i : Int) == 46) = false := by (rw [beq_eq_false_iff_ne]; omega)
    have c7 : ((i : Int) == 91) = false := by (rw [beq_eq_false_iff_ne]; omega)
    have c8 : ((i : Int) == 93) = false := by (rw [beq_eq_false_iff_ne]; omega)
    first | (have hv : spB i = true := by (unfold spB; simp; omega)) | (have hv : spB i = false := by (unfold spB; simp; omega))
    rw [hv]
    clear hv
    first | have hdg := isDigit_any i true (by simp; omega) | have hdg := isDigit_any i false (by simp; omega)
    go_enter Try.func22, Try.ntmps22
    go_wp2_with (go_at_call 26; refine (hdg _).mono ?_; rintro e w' ⟨rfl, rfl⟩)
    go_ret
    exact ⟨rfl, rfl⟩
  · first | have c1 : (97 : Int) ≤ (i : Int) := by omega | have c1 : ¬ (97 : Int) ≤ (i : Int) := by omega
    first | have c2 : (i : Int) ≤ 122 := by omega | have c2 : ¬ (i : Int) ≤ 122 := by omega
    first | have c3 : (65 : Int) ≤ (i : Int) := by omega | have c3 : ¬ (65 : Int) ≤ (i : Int) := by omega
    first | have c4 : (i : Int) ≤ 90 := by omega | have c4 : ¬ (i : Int) ≤ 90 := by omega
    have c5 : ((i : Int) == 45) = false := by (rw [beq_eq_false_iff_ne]; omega)
    have c6 : ((i : Int) == 46) = false := by (rw [beq_eq_false_iff_ne]; omega)
    have c7 : ((i : Int) == 91) = false := by (rw [beq_eq_false_iff_ne]; omega)
    have c8 : ((i : Int) == 93) = false := by (rw [beq_eq_false_iff_ne]; omega)
    first | (have hv : spB i = true := by (unfold spB; simp; omega)) | (have hv : spB i = false := by (unfold spB; simp; omega))
    rw [hv]
    clear hv
    first | have hdg := isDigit_any i true (by simp; omega) | have hdg := isDigit_any i false (by simp; omega)
    go_enter Try.func22, Try.ntmps22
    go_wp2_with (go_at_call 26; refine (hdg _).mono ?_; rintro e w' ⟨rfl, rfl⟩)
    go_ret
    exact ⟨rfl, rfl⟩
  · first | have c1 : (97 : Int) ≤ (i : Int) := by omega | have c1 : ¬ (97 : Int) ≤ (i : Int) := by omega
    first | have c2 : (i : Int) ≤ 122 := by omega | have c2 : ¬ (i : Int) ≤ 122 := by omega
    first | have c3 : (65 : Int) ≤ (i : Int) := by omega | have c3 : ¬ (65 : Int) ≤ (i : Int) := by omega
    first | have c4 : (i : Int) ≤ 90 := by omega | have c4 : ¬ (i : Int) ≤ 90 := by omega
    have c5 : ((i : Int) == 45) = false := by (rw [beq_eq_false_iff_ne]; omega)
    have c6 : ((i : Int) == 46) = false := by (rw [beq_eq_false_iff_ne]; omega)
    have c7 : ((i : Int) == 91) = false := by (rw [beq_eq_false_iff_ne]; omega)
    have c8 : ((i : Int) == 93) = false := by (rw [beq_eq_false_iff_ne]; omega)
    first | (have hv : spB i = true := by (unfold spB; simp; omega)) | (have hv : spB i = false := by (unfold spB; simp; omega))
    rw [hv]
    clear hv
    first | have hdg := isDigit_any i true (by simp; omega) | have hdg := isDigit_any i false (by simp; omega)
    go_enter Try.func22, Try.ntmps22
    go_wp2_with (go_at_call 26; refine (hdg _).mono ?_; rintro e w' ⟨rfl, rfl⟩)
    go_ret
    exact ⟨rfl, rfl⟩

end Go.Proofs.Qxb6000821a
