import Derived.Test.Qxb6000821aLeadP
import Derived.Test.Qxb6000821aClass
namespace Go.Proofs.Qxb6000821a

theorem lead_false (ch : UInt8 → UInt8) (asw : Bool) (l : List UInt8) : ∀ (f i : Nat) (S : List UInt8), (lead ch asw l f i S false).2 = false
  | 0, _, _ => rfl
  | f + 1, i, S => by
    unfold lead
    split
    · rfl
    · split
      · split
        · rfl
        · exact lead_false ch asw l f _ _
      · split
        · split
          · rfl
          · exact lead_false ch asw l f _ _
        · rfl

theorem canB_dig {c : UInt8} (h : 48 ≤ c.toNat ∧ c.toNat ≤ 57) : canB c.toNat = true ∧ spB c.toNat = true := by
  unfold canB spB
  simp
  omega
theorem cch_can {c : UInt8} (h : cch c ≠ 255) : canB c.toNat = true := by
  have h1 : (cch c).toNat ≠ 255 := fun e => h (UInt8.toNat_inj.1 e)
  rw [cch_toNat] at h1
  unfold cn at h1
  unfold canB
  simp
  repeat' split at h1
  all_goals omega
theorem cn_four (i : Nat) : cn i = 255 ∨ cn i = 0 ∨ (97 ≤ cn i ∧ cn i ≤ 122) ∨ (48 ≤ cn i ∧ cn i ≤ 57) := by
  unfold cn
  repeat' split
  all_goals omega
theorem cch_sp {c : UInt8} (h : cch c ≠ 255) (h0 : cch c ≠ 0) : spB (cch c).toNat = true := by
  have h1 : (cch c).toNat ≠ 255 := fun e => h (UInt8.toNat_inj.1 e)
  have h2 : (cch c).toNat ≠ 0 := fun e => h0 (UInt8.toNat_inj.1 e)
  rw [cch_toNat] at h1 h2 ⊢
  have := cn_four c.toNat
  unfold spB
  simp
  omega

theorem el_can {t : List UInt8} {br : Bool} (h : elOk cch t br = true) : (∀ c ∈ t, canB c.toNat = true) ∧ ∀ c ∈ elOut cch t br, spB c.toNat = true := by
  unfold elOk at h
  cases br with
  | true =>
    simp only [if_true, digs, Bool.and_eq_true, List.all_eq_true, decide_eq_true_eq] at h
    exact ⟨fun c hc => (canB_dig (h.2 c hc)).1, fun c hc => (canB_dig (h.2 c (by simpa [elOut] using hc))).2⟩
  | false =>
    simp only [Bool.false_eq_true, if_false, okT, Bool.and_eq_true, List.all_eq_true, decide_eq_true_eq] at h
    refine ⟨fun c hc => cch_can (h.1 c hc), fun c hc => ?_⟩
    simp only [elOut, Bool.false_eq_true, if_false, out, List.mem_filter, List.mem_map, decide_eq_true_eq] at hc
    obtain ⟨⟨d, hd, rfl⟩, h0⟩ := hc
    exact cch_sp (h.1 d hd) h0

theorem opn_can (i : Nat) (br : Bool) : ∀ c ∈ opn i br, canB c.toNat = true ∧ spB c.toNat = true := by
  intro c hc
  unfold opn at hc
  split at hc
  · obtain rfl : c = 91 := by simpa using hc
    decide
  · split at hc
    · obtain rfl : c = 46 := by simpa using hc
      decide
    · simp at hc
theorem cls_can (br : Bool) : ∀ c ∈ cls br, canB c.toNat = true ∧ spB c.toNat = true := by
  intro c hc
  unfold cls at hc
  split at hc
  · obtain rfl : c = 93 := by simpa using hc
    decide
  · simp at hc

theorem next_take {l t : List UInt8} {i nx : Nat} {br : Bool} (h : nextE l i = some (t, br, nx)) : l.take nx = l.take i ++ (opn i br ++ t ++ cls br) := by
  obtain ⟨h1, h2, _, ⟨r, hr⟩, h4, _, _⟩ := nextE_facts h
  have hi : (l.take i).length = i := by rw [List.length_take]; omega
  generalize hm : opn i br ++ t ++ cls br = m at *
  have : l.take nx = (l.take i ++ m ++ r).take nx := by rw [← hr]
  rw [this, h4, List.take_left' (by rw [List.length_append, hi])]

theorem whole_can (asw : Bool) (l : List UInt8) : ∀ (f i : Nat) (S : List UInt8) (inF : Bool), (∀ c ∈ l.take i, canB c.toNat = true) → (lead cch asw l f i S inF).2 = true → ∀ c ∈ l, canB c.toNat = true
  | 0, _, _, _, _, h => by cases h
  | f + 1, i, S, inF, hi, h => by
    unfold lead at h
    split at h
    · cases h
    · rename_i t br nx hn
      split at h
      · rename_i hok
        have hk := el_can hok
        have hnx : ∀ c ∈ l.take nx, canB c.toNat = true := by
          rw [next_take hn]
          intro c hc
          simp only [List.mem_append] at hc
          rcases hc with hc | (hc | hc) | hc
          · exact hi c hc
          · exact (opn_can i br c hc).1
          · exact hk.1 c hc
          · exact (cls_can br c hc).1
        split at h
        · rename_i he
          rw [he, List.take_length] at hnx
          exact hnx
        · exact whole_can asw l f nx _ inF hnx h
      · split at h
        · split at h
          · cases h
          · rw [lead_false] at h; cases h
        · cases h

theorem spelled_sp (l : List UInt8) : ∀ (f i : Nat) (S : List UInt8) (inF : Bool), (∀ c ∈ S, spB c.toNat = true) → ∀ c ∈ (lead cch false l f i S inF).1, spB c.toNat = true
  | 0, _, _, _, hS => by simpa [lead] using hS
  | f + 1, i, S, inF, hS => by
    unfold lead
    split
    · exact hS
    · rename_i t br nx hn
      split
      · rename_i hok
        have hk := el_can hok
        have hN : ∀ c ∈ S ++ opn i br ++ elOut cch t br ++ cls br, spB c.toNat = true := by
          intro c hc
          simp only [List.mem_append] at hc
          rcases hc with ((hc | hc) | hc) | hc
          · exact hS c hc
          · exact (opn_can i br c hc).2
          · exact hk.2 c hc
          · exact (cls_can br c hc).2
        split
        · exact hN
        · exact spelled_sp l f nx _ inF hN
      · simpa using hS
end Go.Proofs.Qxb6000821a
