import Derived.Test.Qxb6000821aLawI
namespace Go.Proofs.Qxb6000821a

/-- The law's model: letters lowered, dashes left out. -/
def canM (c : UInt8) : List UInt8 := if 65 ≤ c.toNat ∧ c.toNat ≤ 90 then [UInt8.ofNat (c.toNat + 32)] else if c.toNat = 45 then [] else [c]
def canonM (l : List UInt8) : List UInt8 := l.flatMap canM
theorem canonM_append (a b : List UInt8) : canonM (a ++ b) = canonM a ++ canonM b := by simp [canonM]
theorem canonM_self {t : List UInt8} (h : ∀ c ∈ t, canM c = [c]) : canonM t = t := by
  induction t with
  | nil => rfl
  | cons c t ih =>
    rw [show c :: t = [c] ++ t from rfl, canonM_append, ih (fun d hd => h d (by simp [hd]))]
    simp [canonM, h c (by simp)]
theorem canonM_len (l : List UInt8) : (canonM l).length ≤ l.length := by
  induction l with
  | nil => simp [canonM]
  | cons c t ih =>
    rw [show c :: t = [c] ++ t from rfl, canonM_append, List.length_append, List.length_append]
    have : (canonM [c]).length ≤ 1 := by
      simp only [canonM, List.flatMap_cons, List.flatMap_nil, List.append_nil, canM]
      repeat' split
      all_goals simp
    simp
    omega
theorem canM_dig {c : UInt8} (h : 48 ≤ c.toNat ∧ c.toNat ≤ 57) : canM c = [c] := by
  unfold canM
  rw [if_neg (by omega), if_neg (by omega)]
theorem canonM_opn (i : Nat) (br : Bool) : canonM (opn i br) = opn i br := by
  unfold opn
  repeat' split
  all_goals rfl
theorem canonM_cls (br : Bool) : canonM (cls br) = cls br := by
  unfold cls
  split
  all_goals rfl
/-- A letter or a digit in the canonical table. -/
theorem cch_al {c : UInt8} (h : alN c.toNat = true) : cch c ≠ 255 ∧ cch c ≠ 0 ∧ canM c = [cch c] := by
  unfold alN digN at h
  simp at h
  have h1 : (cch c).toNat ≠ 255 ∧ (cch c).toNat ≠ 0 := by
    rw [cch_toNat]
    unfold cn
    repeat' split
    all_goals omega
  refine ⟨fun e => h1.1 (by rw [e]; rfl), fun e => h1.2 (by rw [e]; rfl), ?_⟩
  unfold canM cch
  by_cases hu : 65 ≤ c.toNat ∧ c.toNat ≤ 90
  · rw [if_pos hu, if_neg (by omega), if_neg (by omega), if_pos hu]
  · rw [if_neg hu, if_neg (by omega)]
    by_cases hl : 97 ≤ c.toNat ∧ c.toNat ≤ 122
    · rw [if_pos hl]
    · rw [if_neg hl, if_pos (by omega)]
theorem cch_dash {c : UInt8} (h : c.toNat = 45) : cch c = 0 ∧ canM c = [] := by
  obtain rfl : c = 45 := UInt8.toNat_inj.1 h
  exact ⟨by decide, by decide⟩

theorem out_canon {t : List UInt8} (h : ∀ c ∈ t, c.toNat = 45 ∨ alN c.toNat = true) : out cch t = canonM t ∧ okT cch t = true := by
  induction t with
  | nil => exact ⟨rfl, rfl⟩
  | cons c t ih =>
    obtain ⟨i1, i2⟩ := ih (fun d hd => h d (by simp [hd]))
    have e1 : canonM (c :: t) = canM c ++ canonM t := by simp [canonM]
    have e2 : okT cch (c :: t) = (decide (cch c ≠ 255) && okT cch t) := by simp [okT]
    rw [e1, e2, ← i1, i2]
    rcases h c (by simp) with hc | hc
    · obtain ⟨h1, h2⟩ := cch_dash hc
      rw [h2, h1]
      exact ⟨by simp [out, h1], by decide⟩
    · obtain ⟨h1, h2, h3⟩ := cch_al hc
      rw [h3]
      exact ⟨by simp [out, h2], by simp [h1]⟩

theorem el_canon {t : List UInt8} {br : Bool} (hd : (!br || digs t) = true) (hc : (br || dotC t) = true) : elOk cch t br = true ∧ elOut cch t br = canonM t := by
  unfold elOk elOut
  cases br with
  | true =>
    have hd' : digs t = true := by simpa using hd
    refine ⟨by simpa using hd', ?_⟩
    rw [if_pos rfl]
    unfold digs at hd'
    simp only [Bool.and_eq_true, List.all_eq_true, decide_eq_true_eq] at hd'
    exact (canonM_self fun c hc => canM_dig (hd'.2 c hc)).symm
  | false =>
    have hc' : dotC t = true := by simpa using hc
    unfold dotC at hc'
    simp only [Bool.and_eq_true, List.all_eq_true, List.any_eq_true, Bool.or_eq_true, decide_eq_true_eq] at hc'
    obtain ⟨h1, c, hcm, hc45⟩ := hc'
    obtain ⟨o1, o2⟩ := out_canon h1
    simp only [Bool.false_eq_true, if_false]
    refine ⟨?_, o1⟩
    rw [o2, Bool.true_and]
    have hal : alN c.toNat = true := by rcases h1 c hcm with h | h; exact absurd h hc45; exact h
    have h0 := (cch_al hal).2.1
    cases ho : out cch t with
    | nil =>
      have : cch c ∈ out cch t := by
        unfold out
        rw [List.mem_filter]
        exact ⟨List.mem_map.2 ⟨c, hcm, rfl⟩, by simpa using h0⟩
      rw [ho] at this
      simp at this
    | cons _ _ => rfl

theorem parse_dno (l : List UInt8) : ∀ (f i : Nat) (c : Bool), (parse l f i false c).2.1 = false
  | 0, _, _ => rfl
  | f + 1, i, c => by
    unfold parse
    split
    · rfl
    · split
      · rfl
      · rw [Bool.false_and]; exact parse_dno l f _ _
theorem parse_cno (l : List UInt8) : ∀ (f i : Nat) (d : Bool), (parse l f i d false).2.2 = false
  | 0, _, _ => rfl
  | f + 1, i, d => by
    unfold parse
    split
    · rfl
    · split
      · rfl
      · rw [Bool.false_and]; exact parse_cno l f _ _

theorem canon_sync (l : List UInt8) : ∀ (f i : Nat), i < l.length ∨ i = 0 → i ≤ l.length → l.length < i + (f + 1) → parse l (f + 1) i true true = (true, true, true) →
    lead cch false l (f + 1) i (canonM (l.take i)) true = (canonM l, true) := by
  intro f
  induction f with
  | zero =>
    intro i hi hil hf hp
    have hn : nextE l i = none := by unfold nextE; rw [if_pos (by omega)]
    unfold parse at hp
    rw [hn, if_neg (by omega)] at hp
    cases hp
  | succ f ih =>
    intro i hi hil hf hp
    cases hn : nextE l i with
    | none =>
      unfold parse at hp
      rw [hn, if_neg (by omega)] at hp
      cases hp
    | some r =>
      obtain ⟨t, br, nx⟩ := r
      obtain ⟨h1, h2, h3, _, _, _, _⟩ := nextE_facts hn
      have hP : parse l (f + 1 + 1) i true true = parse l (f + 1) nx (true && (!br || digs t)) (true && (br || dotC t)) := by
        conv => lhs; unfold parse
        rw [hn, if_neg (by omega)]
      rw [hP, Bool.true_and, Bool.true_and] at hp
      have hd : (!br || digs t) = true := by
        cases hq : (!br || digs t) with
        | true => rfl
        | false => rw [hq] at hp; have := parse_dno l (f + 1) nx (br || dotC t); rw [hp] at this; cases this
      have hc : (br || dotC t) = true := by
        cases hq : (br || dotC t) with
        | true => rfl
        | false => rw [hq] at hp; have := parse_cno l (f + 1) nx (!br || digs t); rw [hp] at this; cases this
      rw [hd, hc] at hp
      obtain ⟨k1, k2⟩ := el_canon hd hc
      have hS : canonM (l.take i) ++ opn i br ++ canonM t ++ cls br = canonM (l.take nx) := by
        rw [next_take hn, canonM_append, canonM_append, canonM_append, canonM_opn, canonM_cls]
        simp
      conv => lhs; unfold lead
      rw [hn]
      simp only
      rw [k1, k2, hS, if_pos rfl]
      by_cases he : nx = l.length
      · rw [if_pos he, he, List.take_length]
      · rw [if_neg he]
        exact ih nx (.inl (by omega)) h2 (by omega) hp
end Go.Proofs.Qxb6000821a
