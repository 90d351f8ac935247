import Derived.Test.Qxb6000821aText2
import Derived.Test.Qxb6000821aNextE
namespace Go.Proofs.Qxb6000821a

/-- What sets an element off, before and behind its text. -/
def opn (i : Nat) (br : Bool) : List UInt8 := if br = true then [91] else if 0 < i then [46] else []
def cls (br : Bool) : List UInt8 := if br = true then [93] else []

/-- What appendLeading comes to from the element at i on, S being spelled already: the spelling, and whether it is all of the name in the form. -/
def lead (ch : UInt8 → UInt8) (asw : Bool) (l : List UInt8) : Nat → Nat → List UInt8 → Bool → List UInt8 × Bool
  | 0, _, S, _ => (S, false)
  | f + 1, i, S, inF =>
    match nextE l i with
    | none => (S, false)
    | some (t, br, nx) =>
      if elOk ch t br = true then
        if nx = l.length then (S ++ opn i br ++ elOut ch t br ++ cls br, inF) else lead ch asw l f nx (S ++ opn i br ++ elOut ch t br ++ cls br) inF
      else if asw = true then
        if nx = l.length then (S ++ opn i br ++ t ++ cls br, false) else lead ch asw l f nx (S ++ opn i br ++ t ++ cls br) false
      else (S, false)

theorem while_all {p : UInt8 → Bool} {L : List UInt8} {c : UInt8} (h : c ∈ L.takeWhile p) : p c = true := by
  induction L with
  | nil => simp at h
  | cons b L ih =>
    rw [List.takeWhile_cons] at h
    split at h
    · rename_i hb
      rcases List.mem_cons.1 h with rfl | h
      · exact hb
      · exact ih h
    · simp at h
theorem while_next {p : UInt8 → Bool} {L : List UInt8} (h : (L.takeWhile p).length < L.length) : ∃ c, L[(L.takeWhile p).length]? = some c ∧ p c = false := by
  refine ⟨L[(L.takeWhile p).length], List.getElem?_eq_getElem h, ?_⟩
  cases hp : p L[(L.takeWhile p).length] with
  | false => rfl
  | true =>
    have := (while_step (p := p) (L := L) (Nat.le_refl _) (List.getElem?_eq_getElem h)).1 hp
    omega

theorem drop_split {l : List UInt8} {i : Nat} {m r : List UInt8} (h : l.drop i = m ++ r) : l = l.take i ++ m ++ r := by
  conv => lhs; rw [← List.take_append_drop i l, h]
  simp

/-- Of an element: its text and what sets it off are the name's own bytes from i on. -/
theorem nextE_facts {l : List UInt8} {i : Nat} {t : List UInt8} {br : Bool} {nx : Nat} (h : nextE l i = some (t, br, nx)) :
    i < nx ∧ nx ≤ l.length ∧ t ≠ [] ∧ (∃ r, l = l.take i ++ (opn i br ++ t ++ cls br) ++ r) ∧ nx = i + (opn i br ++ t ++ cls br).length ∧ (br = false → ∀ c ∈ t, c ≠ 46 ∧ c ≠ 91) ∧ (br = true → 0 < i) := by
  unfold nextE at h
  split at h
  · cases h
  · rename_i h1
    have hi : i < l.length := by omega
    split at h
    · rename_i h2
      obtain ⟨h0, hc⟩ := h2
      split at h
      · cases h
      · rename_i h3
        simp only [not_or] at h3
        simp only [Option.some.injEq, Prod.mk.injEq] at h
        obtain ⟨rfl, rfl, rfl⟩ := h
        have hlt : ((l.drop (i + 1)).takeWhile notBr).length < (l.drop (i + 1)).length := by rw [List.length_drop]; omega
        obtain ⟨c, hc1, hc2⟩ := while_next hlt
        have hc3 : c = 93 := by simpa [notBr] using hc2
        subst hc3
        refine ⟨by omega, by omega, h3.1, ?_, by simp [opn, cls]; omega, (fun h => by cases h), fun _ => h0⟩
        have hd : l.drop i = 91 :: l.drop (i + 1) := by
          rw [List.getElem?_eq_getElem hi] at hc
          rw [List.drop_eq_getElem_cons hi, Option.some.inj hc]
        have hd2 : l.drop (i + 1) = (l.drop (i + 1)).takeWhile notBr ++ 93 :: (l.drop (i + 1)).drop (((l.drop (i + 1)).takeWhile notBr).length + 1) := by
          conv => lhs; rw [← List.take_append_drop ((l.drop (i + 1)).takeWhile notBr).length (l.drop (i + 1)), while_take]
          rw [List.getElem?_eq_getElem hlt] at hc1
          rw [List.drop_eq_getElem_cons hlt, Option.some.inj hc1]
        refine ⟨(l.drop (i + 1)).drop (((l.drop (i + 1)).takeWhile notBr).length + 1), drop_split ?_⟩
        rw [hd]
        conv => lhs; rw [hd2]
        simp [opn, cls]
    · rename_i h2
      split at h
      · cases h
      · rename_i h3
        by_cases h0 : 0 < i
        · simp only [if_pos h0] at h
          split at h
          · cases h
          · rename_i hE
            simp only [Option.some.injEq, Prod.mk.injEq] at h
            obtain ⟨rfl, rfl, rfl⟩ := h
            have hle : ((l.drop (i + 1)).takeWhile notDot).length ≤ (l.drop (i + 1)).length := while_le _ _
            rw [List.length_drop] at hle
            have hpos : 0 < ((l.drop (i + 1)).takeWhile notDot).length := List.length_pos_iff.2 hE
            have hc : l[i]? = some 46 := Classical.byContradiction fun hh => h3 ⟨h0, hh⟩
            refine ⟨by omega, by omega, hE, ?_, by simp [opn, cls, h0]; omega, fun _ c hc => ?_, (fun h => by cases h)⟩
            · have hd : l.drop i = 46 :: l.drop (i + 1) := by
                rw [List.getElem?_eq_getElem hi] at hc
                rw [List.drop_eq_getElem_cons hi, Option.some.inj hc]
              refine ⟨(l.drop (i + 1)).drop ((l.drop (i + 1)).takeWhile notDot).length, drop_split ?_⟩
              rw [hd]
              conv => lhs; rw [← List.take_append_drop ((l.drop (i + 1)).takeWhile notDot).length (l.drop (i + 1)), while_take]
              simp [opn, cls, h0]
            · have := while_all hc
              simpa [notDot] using this
        · have hi0 : i = 0 := by omega
          subst hi0
          simp only [Nat.lt_irrefl, if_false, List.drop_zero, Nat.zero_add] at h
          split at h
          · cases h
          · rename_i hE
            simp only [Option.some.injEq, Prod.mk.injEq] at h
            obtain ⟨rfl, rfl, rfl⟩ := h
            have hle : (l.takeWhile notDot).length ≤ l.length := while_le _ _
            have hpos : 0 < (l.takeWhile notDot).length := List.length_pos_iff.2 hE
            refine ⟨hpos, hle, hE, ⟨l.drop (l.takeWhile notDot).length, ?_⟩, by simp [opn, cls], fun _ c hc => ?_, (fun h => by cases h)⟩
            · simp only [opn, cls, Bool.false_eq_true, if_false, Nat.lt_irrefl, List.take_zero, List.nil_append, List.append_nil]
              conv => lhs; rw [← List.take_append_drop (l.takeWhile notDot).length l, while_take]
            · have := while_all hc
              simpa [notDot] using this

/-- Where the spelling stands against the name: it has kept step, or it has left a dash (some byte that sets nothing off) out. -/
def Al (l S : List UInt8) (i : Nat) : Prop := S.length ≤ i ∧ (pre l S = true → S.length < i → ∃ c, l[S.length]? = some c ∧ c ≠ 46 ∧ c ≠ 91)

theorem al_start (l : List UInt8) : Al l [] 0 := ⟨Nat.le_refl _, fun _ h => by simp at h⟩

theorem al_eq {l S t : List UInt8} {i nx : Nat} {br : Bool} (h : nextE l i = some (t, br, nx)) (ha : Al l S i) (hp : pre l (S ++ opn i br) = true) : S.length = i := by
  obtain ⟨h1, h2⟩ := ha
  rcases Nat.lt_or_eq_of_le h1 with hlt | heq
  · exfalso
    obtain ⟨c, hc, h46, h91⟩ := h2 (pre_left hp) hlt
    have hne : ∃ d, opn i br = [d] ∧ (d = 46 ∨ d = 91) := by
      unfold opn
      cases br with
      | true => exact ⟨91, by simp, .inr rfl⟩
      | false => exact ⟨46, by simp; omega, .inl rfl⟩
    obtain ⟨d, hd, hd2⟩ := hne
    rw [hd] at hp
    have := pre_get hp (j := S.length) (by simp)
    rw [hc] at this
    simp at this
    subst this
    rcases hd2 with rfl | rfl
    · exact h46 rfl
    · exact h91 rfl
  · exact heq

theorem al_pre {l S t : List UInt8} {i nx : Nat} {br : Bool} (h : nextE l i = some (t, br, nx)) (ha : Al l S i) (hp : pre l (S ++ opn i br) = true) : pre l (S ++ opn i br ++ t ++ cls br) = true := by
  have he := al_eq h ha hp
  obtain ⟨_, _, _, ⟨r, hr⟩, _⟩ := nextE_facts h
  have hS : S = l.take i := by rw [← he]; exact pre_take (pre_left hp)
  rw [pre_iff]
  refine ⟨r, ?_⟩
  rw [hS]
  conv => rhs; rw [hr]
  simp

theorem al_next {l S t : List UInt8} {i nx : Nat} {br : Bool} (h : nextE l i = some (t, br, nx)) (ha : Al l S i) (T : List UInt8) (hT : T = t ∨ (br = false ∧ T.length ≤ t.length)) : Al l (S ++ opn i br ++ T ++ cls br) nx := by
  obtain ⟨_, _, _, ⟨r, hr⟩, hnx, hdot, _⟩ := nextE_facts h
  have hlen : T.length ≤ t.length := by rcases hT with rfl | ⟨_, h⟩; exact Nat.le_refl _; exact h
  refine ⟨by have := ha.1; rw [hnx]; simp; omega, fun hp hlt => ?_⟩
  have hp1 : pre l (S ++ opn i br) = true := by
    refine pre_left (X := T ++ cls br) ?_
    rw [← List.append_assoc]; exact hp
  have he := al_eq h ha hp1
  rcases hT with rfl | ⟨hb, _⟩
  · exfalso
    rw [hnx] at hlt
    simp at hlt
    omega
  · subst hb
    have hlt2 : T.length < t.length := by rw [hnx] at hlt; simp [cls] at hlt; omega
    have hap := al_pre h ha hp1
    simp only [cls, Bool.false_eq_true, if_false, List.append_nil] at hap ⊢
    have hg := pre_get hap (j := (S ++ opn i false ++ T).length) (by simp; omega)
    have e : (S ++ opn i false ++ t)[(S ++ opn i false ++ T).length]? = t[T.length]? := by
      rw [List.getElem?_append_right (by simp)]
      congr 1
      simp; omega
    rw [e, List.getElem?_eq_getElem hlt2] at hg
    exact ⟨t[T.length], hg, hdot rfl _ (List.getElem_mem hlt2)⟩
theorem elOut_T (ch : UInt8 → UInt8) (t : List UInt8) (br : Bool) : elOut ch t br = t ∨ (br = false ∧ (elOut ch t br).length ≤ t.length) := by
  cases br with
  | true => exact .inl rfl
  | false => exact .inr ⟨rfl, out_le ch t⟩
theorem next_mem {l t : List UInt8} {i nx : Nat} {br : Bool} (h : nextE l i = some (t, br, nx)) {c : UInt8} (hc : c ∈ t) : c ∈ l := by
  obtain ⟨_, _, _, ⟨r, hr⟩, _⟩ := nextE_facts h
  rw [hr]
  simp [hc]
theorem elOut_le (ch : UInt8 → UInt8) (t : List UInt8) (br : Bool) : (elOut ch t br).length ≤ t.length := by
  cases br with
  | true => exact Nat.le_refl _
  | false => exact out_le ch t
end Go.Proofs.Qxb6000821a
