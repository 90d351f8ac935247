import Derived.Test.Qxb6000821aParse
import Derived.Test.Qxb6000821aLawF
namespace Go.Proofs.Qxb6000821a

theorem out_id {t : List UInt8} (h : ∀ c ∈ t, c ≠ 0) : out id t = t := by
  unfold out
  rw [List.map_id]
  exact List.filter_eq_self.2 fun c hc => by simpa using h c hc
theorem elOk_id {t : List UInt8} {br : Bool} (h0 : ∀ c ∈ t, c ≠ 0) (h255 : ∀ c ∈ t, c ≠ 255) (hne : t ≠ []) : elOk id t br = (!br || digs t) := by
  unfold elOk
  cases br with
  | true => simp
  | false =>
    have h1 : okT id t = true := by
      unfold okT
      rw [List.all_eq_true]
      intro c hc
      simpa using h255 c hc
    simp [h1, out_id h0, hne]
theorem elOut_id {t : List UInt8} {br : Bool} (h0 : ∀ c ∈ t, c ≠ 0) : elOut id t br = t := by
  unfold elOut
  split
  · rfl
  · exact out_id h0

theorem id_sync (l : List UInt8) (h0 : ∀ c ∈ l, c ≠ 0) (h255 : ∀ c ∈ l, c ≠ 255) : ∀ (f i : Nat) (d c : Bool), i < l.length ∨ i = 0 → i ≤ l.length → l.length < i + (f + 1) →
    (lead id true l (f + 1) i (l.take i) d).1 = l.take (lead id true l (f + 1) i (l.take i) d).1.length ∧
    (lead id true l (f + 1) i (l.take i) d).2 = ((parse l (f + 1) i d c).1 && (parse l (f + 1) i d c).2.1) ∧
    ((lead id true l (f + 1) i (l.take i) d).1.length = l.length ↔ ((parse l (f + 1) i d c).1 = true ∨ l.length = 0)) := by
  intro f
  induction f with
  | zero =>
    intro i d c hi hil hf
    have hi0 : i = l.length := by omega
    have hi1 : i = 0 := by omega
    have hn : nextE l i = none := by unfold nextE; rw [if_pos (by omega)]
    unfold lead parse
    rw [hn, if_neg (by omega)]
    simp only
    rw [List.length_take]
    refine ⟨by rw [Nat.min_eq_left hil], rfl, fun h => .inr (by omega), fun h => ?_⟩
    rcases h with h | h
    · cases h
    · omega
  | succ f ih =>
    intro i d c hi hil hf
    cases hn : nextE l i with
    | none =>
      unfold lead parse
      rw [hn, if_neg (by omega)]
      simp only
      rw [List.length_take]
      refine ⟨by rw [Nat.min_eq_left hil], rfl, fun h => .inr (by omega), fun h => ?_⟩
      rcases h with h | h
      · cases h
      · omega
    | some r =>
      obtain ⟨t, br, nx⟩ := r
      obtain ⟨h1, h2, h3, _, _, _, _⟩ := nextE_facts hn
      have ht0 : ∀ c ∈ t, c ≠ 0 := fun c hc => h0 c (next_mem hn hc)
      have ht255 : ∀ c ∈ t, c ≠ 255 := fun c hc => h255 c (next_mem hn hc)
      have hS : l.take i ++ opn i br ++ t ++ cls br = l.take nx := by rw [next_take hn]; simp
      have hL : lead id true l (f + 1 + 1) i (l.take i) d = if nx = l.length then (l.take nx, d && (!br || digs t)) else lead id true l (f + 1) nx (l.take nx) (d && (!br || digs t)) := by
        conv => lhs; unfold lead
        rw [hn]
        simp only
        rw [elOk_id ht0 ht255 h3, elOut_id ht0, hS]
        cases hq : (!br || digs t) with
        | true => simp
        | false => simp
      have hP : parse l (f + 1 + 1) i d c = parse l (f + 1) nx (d && (!br || digs t)) (c && (br || dotC t)) := by
        conv => lhs; unfold parse
        rw [hn, if_neg (by omega)]
      rw [hL, hP]
      by_cases he : nx = l.length
      · rw [if_pos he]
        have hP2 : parse l (f + 1) nx (d && (!br || digs t)) (c && (br || dotC t)) = (true, d && (!br || digs t), c && (br || dotC t)) := by
          unfold parse
          rw [if_pos ⟨he, by omega⟩]
        rw [hP2]
        refine ⟨by simp [he], rfl, by simp [he]⟩
      · rw [if_neg he]
        exact ih nx _ _ (.inl (by omega)) h2 (by omega)
end Go.Proofs.Qxb6000821a
