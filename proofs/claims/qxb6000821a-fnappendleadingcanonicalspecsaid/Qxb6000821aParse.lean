import Derived.Test.Qxb6000821aDotC
import Derived.Test.Qxb6000821aLeadP
import Derived.Deep.DeepCutAuto
import Derived.Deep.CutBlock
namespace Go.Proofs.Qxb6000821a
open Go.RowKit

/-- What parseName comes to from place i on. -/
def parse (l : List UInt8) : Nat → Nat → Bool → Bool → Bool × Bool × Bool
  | 0, i, d, c => (decide (i = l.length), d, c)
  | f + 1, i, d, c =>
    if i = l.length ∧ 0 < i then (true, d, c)
    else match nextE l i with
      | none => (false, d, c)
      | some (t, br, nx) => parse l f nx (d && (!br || digs t)) (c && (br || dotC t))

theorem ext_dot {s : ByteArray} {l : List UInt8} (hl : l = s.data.toList) (st : Nat) : (s.extract st (st + (dotT l st).length)).data.toList = dotT l st := by
  rw [ext_list, ← hl, show st + (dotT l st).length - st = (dotT l st).length by omega]
  exact while_take _ _
theorem dot_le (l : List UInt8) (st : Nat) (h : st ≤ l.length) : st + (dotT l st).length ≤ l.length := by
  have := while_le notDot (l.drop st)
  unfold dotT
  rw [List.length_drop] at this
  omega

def brT (l : List UInt8) (st : Nat) : List UInt8 := (l.drop st).takeWhile notBr
def BScan (nm : ByteArray) (st en : Nat) : Prop :=
  ∀ j : Nat, st ≤ j → j ≤ en → ∀ h : j < nm.size, ((j < en ∧ ((nm[j].toNat : Int) != 93) = true) ∨ (j = en ∧ ((nm[j].toNat : Int) != 93) = false))
theorem bscan_of (nm : ByteArray) (l : List UInt8) (st : Nat) (hl : l = nm.data.toList) : BScan nm st (st + (brT l st).length) := by
  intro j h1 h2 h
  have hs : (notBr nm[j] = true ↔ j - st + 1 ≤ (brT l st).length) := by
    refine while_step (L := l.drop st) (k := j - st) (by unfold brT at h2; omega) ?_
    rw [List.getElem?_drop, show st + (j - st) = j by omega]
    exact name_at hl _ h
  by_cases h93 : nm[j] = 93
  · right
    rw [h93] at hs ⊢
    have : ¬ (j - st + 1 ≤ (brT l st).length) := fun hh => by simp [notBr] at hs; omega
    exact ⟨by omega, rfl⟩
  · left
    refine ⟨?_, by rw [bne_iff_ne]; exact u8_ne h93⟩
    have := hs.1 (by simp [notBr, h93])
    omega
theorem ext_br {s : ByteArray} {l : List UInt8} (hl : l = s.data.toList) (st : Nat) : (s.extract st (st + (brT l st).length)).data.toList = brT l st := by
  rw [ext_list, ← hl, show st + (brT l st).length - st = (brT l st).length by omega]
  exact while_take _ _
theorem br_le (l : List UInt8) (st : Nat) (h : st ≤ l.length) : st + (brT l st).length ≤ l.length := by
  have := while_le notBr (l.drop st)
  unfold brT
  rw [List.length_drop] at this
  omega
theorem nextE_dot {l : List UInt8} {i : Nat} (h0 : 0 < i) (hc : l[i]? = some 46) : nextE l i = if dotT l (i + 1) = [] then none else some (dotT l (i + 1), false, i + 1 + (dotT l (i + 1)).length) := by
  have hi : i < l.length := (List.getElem?_eq_some_iff.1 hc).1
  unfold nextE dotT
  rw [if_neg (by omega), if_neg (by rw [hc]; simp), if_neg (by rw [hc]; simp), if_pos h0]
theorem nextE_br {l : List UInt8} {i : Nat} (h0 : 0 < i) (hc : l[i]? = some 91) : nextE l i = if brT l (i + 1) = [] ∨ l.length ≤ i + 1 + (brT l (i + 1)).length then none else some (brT l (i + 1), true, i + 1 + (brT l (i + 1)).length + 1) := by
  have hi : i < l.length := (List.getElem?_eq_some_iff.1 hc).1
  unfold nextE brT
  rw [if_neg (by omega), if_pos ⟨h0, hc⟩]

set_option maxRecDepth 100000 in
set_option maxHeartbeats 8000000 in
theorem parse_any (s : ByteArray) (l : List UInt8) (w : World) (hl : l = s.data.toList) (hs : s.size ≤ 1048576) (P : Bool × Bool × Bool) (hP : parse l (l.length + 1) 0 true true = P) :
    Calls Try.prog 14 #[.string s] w fun e w' => e = .returned (.tuple #[.bool P.1, .bool P.2.1, .bool P.2.2]) ∧ w' = w := by
  have hll : l.length = s.size := by rw [hl]; simp
  have HL : Hid (l = s.data.toList) := hl
  have HP : Hid (parse l (l.length + 1) 0 true true = P) := hP
  clear hl hP
  obtain ⟨en, hen⟩ : ∃ en, en = (dotT l 0).length := ⟨_, rfl⟩
  have hle : en ≤ s.size := by rw [hen, ← hll]; have := dot_le l 0 (by omega); omega
  have HK : Hid (Scan s 0 en) := by
    have := scan_of s l 0 HL.out
    rw [Nat.zero_add, ← hen] at this
    exact this
  have HD : Hid (en = (dotT l 0).length) := hen
  clear hen
  go_enter Try.func14, Try.ntmps14
  go_upto_block 0 with fail
  go_cut [7] (fun x wc => x = .int .i64 en ∧ wc = w)
  case first =>
    go_wp2
    go_loopg [7] en (fun g x wx => ∃ j : Nat, j + g = en ∧ x = .int .i64 j ∧ wx = w)
    case atStart => exact ⟨0, by omega, rfl, rfl⟩
    case round =>
      obtain ⟨j, hjg, rfl, rfl⟩ := hrel
      by_cases hlt : j < s.size
      · rcases HK.out j (Nat.zero_le _) (by omega) hlt with ⟨h1, h2, h3⟩ | ⟨h1, h2⟩ | ⟨h1, h2, h3⟩
        · obtain ⟨g, rfl⟩ : ∃ g, gk = g + 1 := ⟨gk - 1, by omega⟩
          go_wp2
          go_roundg g
          case measure => omega
          case rel => exact ⟨j + 1, by omega, by first | rfl | simp, rfl⟩
        · subst h1
          go_wp2
          go_meet
          exact ⟨rfl, rfl⟩
        · subst h1
          go_wp2
          go_meet
          exact ⟨rfl, rfl⟩
      · obtain rfl : j = en := by omega
        go_wp2
        go_meet
        exact ⟨rfl, rfl⟩
  case rest => 
    obtain ⟨rfl, rfl⟩ := hcut
    by_cases h0 : en = 0
    · subst h0
      have HN : Hid (P = (false, true, true)) := by
        have h1 : dotT l 0 = [] := List.eq_nil_of_length_eq_zero HD.out.symm
        show _ = _
        rw [← HP.out]
        unfold parse
        have h2 : nextE l 0 = none := by
          unfold nextE
          unfold dotT at h1
          rw [List.drop_zero] at h1
          simp [h1]
        rw [h2]
        simp
      go_wp2
      rw [HN.out]
      exact bodyPost_ret (v := .tuple #[.bool false, .bool true, .bool true]) (by simp [results, Try.results14, go_sem]) rfl ⟨rfl, rfl⟩
    · have hz : ((en : Int) == 0) = false := by rw [beq_eq_false_iff_ne]; omega
      obtain ⟨b, hb⟩ : ∃ b, dotC (dotT l 0) = b := ⟨_, rfl⟩
      have HB : Hid (dotC (dotT l 0) = b) := hb
      have HC : Hid (∀ w, Calls Try.prog 24 #[.string (s.extract 0 en)] w fun e w' => e = .returned (.bool b) ∧ w' = w) := by
        intro w
        have e1 := ext_dot HL.out 0
        rw [Nat.zero_add, ← HD.out] at e1
        rw [← hb]
        exact dotC_any _ _ w e1.symm (by simp; omega)
      clear hb
      have HP2 : Hid (parse l l.length en true b = P) := by
        show _ = _
        rw [← HP.out]
        conv => rhs; unfold parse
        have h2 : nextE l 0 = some (dotT l 0, false, en) := by
          have h1 : dotT l 0 ≠ [] := fun e => h0 (by rw [HD.out, e]; rfl)
          have h3 : ¬ l.length ≤ 0 := by omega
          rw [HD.out]
          unfold nextE
          unfold dotT at h1 ⊢
          rw [List.drop_zero] at h1 ⊢
          simp [h1]
          intro e
          rw [e] at h3
          simp at h3
        rw [h2]
        simp [HB.out]
      clear HP HB HD HK
      go_upto_if 36 with (go_at_call 24; refine (HC.out _).mono ?_; rintro e w' ⟨rfl, rfl⟩)
      go_cut [6] (fun x wc => x = .bool b ∧ wc = w')
      case first =>
        cases b
        · go_wp2
          go_meet
          exact ⟨rfl, rfl⟩
        · go_wp2
          go_meet
          exact ⟨rfl, rfl⟩
      case rest =>
        obtain ⟨rfl, rfl⟩ := hcut
        clear HC hz
        go_wp2
        go_loopg [5, 6, 7] l.length (fun g d c j wx => ∃ (i : Nat) (dd cc : Bool), d = .bool dd ∧ c = .bool cc ∧ j = .int .i64 i ∧ 0 < i ∧ i ≤ s.size ∧ s.size - i ≤ g ∧ parse l g i dd cc = P ∧ wx = wc)
        case atStart => exact ⟨en, true, b, rfl, rfl, rfl, by omega, by omega, by omega, HP2.out, rfl⟩
        case round =>
          obtain ⟨i, dd, cc, rfl, rfl, rfl, hi0, his, hig, hp, rfl⟩ := hrel
          have HQ : Hid (parse l gk i dd cc = P) := hp
          clear hp HP2
          by_cases hlt : i < s.size
          · have hltz : (i : Int) < (s.size : Int) := by omega
            obtain ⟨g, rfl⟩ : ∃ g, gk = g + 1 := ⟨gk - 1, by omega⟩
            have h0' := name_at HL.out i hlt
            have H0 : Hid (l[i]? = some s[i]) := h0'
            clear h0'
            have HPP : Hid ((match nextE l i with
              | none => (false, dd, cc)
              | some (t, br, nx) => parse l g nx (dd && (!br || digs t)) (cc && (br || dotC t))) = P) := by
              have h1 := HQ.out
              unfold parse at h1
              rw [if_neg (by omega)] at h1
              exact h1
            clear HQ
            by_cases h46 : s[i] = 46
            · have c1 : ((s[i].toNat : Int) == 46) = true := by rw [h46]; rfl
              have HX := nextE_dot hi0 (by rw [H0.out, h46])
              obtain ⟨t, ht⟩ : ∃ t, dotT l (i + 1) = t := ⟨_, rfl⟩
              obtain ⟨m, hm⟩ : ∃ m, m = i + 1 + t.length := ⟨_, rfl⟩
              have hml : m ≤ s.size := by have := dot_le l (i + 1) (by omega); rw [ht] at this; omega
              have HK : Hid (Scan s (i + 1) m) := by
                have := scan_of s l (i + 1) HL.out
                rw [ht, ← hm] at this
                exact this
              have HE : Hid ((s.extract (i + 1) m).data.toList = t) := by
                have := ext_dot HL.out (i + 1)
                rw [ht, ← hm] at this
                exact this
              rw [ht, ← hm] at HX
              have HX2 : Hid (nextE l i = if t = [] then none else some (t, false, m)) := HX
              have HM : Hid (m = i + 1 + t.length) := hm
              have hmi : i + 1 ≤ m := by omega
              clear HX ht h46 hm
              go_upto_block 4 with fail
              go_cut [8] (fun x wc => x = .int .i64 m ∧ wc = wr)
              case first =>
                go_wp2
                go_loopg [8] (m - (i + 1)) (fun g x wx => ∃ j : Nat, j + g = m ∧ i + 1 ≤ j ∧ x = .int .i64 j ∧ wx = wr)
                case atStart => exact ⟨i + 1, by omega, by omega, by first | rfl | simp, rfl⟩
                case round =>
                  obtain ⟨j, hjg, hij, rfl, rfl⟩ := hrel
                  by_cases hjl : j < s.size
                  · rcases HK.out j hij (by omega) hjl with ⟨h1, h2, h3⟩ | ⟨h1, h2⟩ | ⟨h1, h2, h3⟩
                    · obtain ⟨g', rfl⟩ : ∃ g', gk = g' + 1 := ⟨gk - 1, by omega⟩
                      go_wp2
                      go_roundg g'
                      case measure => omega
                      case rel => exact ⟨j + 1, by omega, by omega, by first | rfl | simp, rfl⟩
                    · subst h1
                      go_wp2
                      go_meet
                      exact ⟨rfl, rfl⟩
                    · subst h1
                      go_wp2
                      go_meet
                      exact ⟨rfl, rfl⟩
                  · obtain rfl : j = m := by omega
                    go_wp2
                    go_meet
                    exact ⟨rfl, rfl⟩
              case rest =>
                obtain ⟨rfl, rfl⟩ := hcut
                by_cases h1 : t = []
                · have hz : ((m : Int) == (i : Int) + 1) = true := by have hm := HM.out; rw [beq_iff_eq]; subst h1; simp at hm; omega
                  have HN : Hid (P = (false, dd, cc)) := by
                    show _ = _
                    rw [← HPP.out, HX2.out, if_pos h1]
                  clear h1
                  go_wp2
                  rw [HN.out]
                  exact bodyPost_ret (v := .tuple #[.bool false, .bool dd, .bool cc]) (by simp [results, Try.results14, go_sem]) rfl ⟨rfl, rfl⟩
                · have hpos : 0 < t.length := List.length_pos_iff.2 h1
                  have hmi2 : i + 1 < m := by have hm := HM.out; omega
                  have hz : ((m : Int) == (i : Int) + 1) = false := by rw [beq_eq_false_iff_ne]; omega
                  obtain ⟨b2, hb2⟩ : ∃ b2, dotC t = b2 := ⟨_, rfl⟩
                  have HN : Hid (parse l g m dd (cc && b2) = P) := by
                    have h2 := HPP.out
                    rw [HX2.out, if_neg h1] at h2
                    simp only [Bool.not_false, Bool.true_or, Bool.and_true, Bool.false_or, hb2] at h2
                    exact h2
                  have HC : Hid (∀ w, Calls Try.prog 24 #[.string (s.extract (i + 1) m)] w fun e w' => e = .returned (.bool b2) ∧ w' = w) := by
                    intro w
                    rw [← hb2]
                    exact dotC_any _ _ w HE.out.symm (by simp; omega)
                  clear hb2 h1
                  cases b2
                  · go_wp2_with (go_at_call 24; refine (HC.out _).mono ?_; rintro e w' ⟨rfl, rfl⟩)
                    go_roundg g
                    case measure => omega
                    case rel => exact ⟨m, dd, cc && false, rfl, by simp, rfl, by omega, by omega, by omega, HN.out, rfl⟩
                  · go_wp2_with (go_at_call 24; refine (HC.out _).mono ?_; rintro e w' ⟨rfl, rfl⟩)
                    go_roundg g
                    case measure => omega
                    case rel => exact ⟨m, dd, cc && true, rfl, by simp, rfl, by omega, by omega, by omega, HN.out, rfl⟩
            · have c1 : ((s[i].toNat : Int) == 46) = false := by rw [beq_eq_false_iff_ne]; exact u8_ne h46
              by_cases h91 : s[i] = 91
              · have c2 : ((s[i].toNat : Int) == 91) = true := by rw [h91]; rfl
                have HX := nextE_br hi0 (by rw [H0.out, h91])
                obtain ⟨t, ht⟩ : ∃ t, brT l (i + 1) = t := ⟨_, rfl⟩
                obtain ⟨m, hm⟩ : ∃ m, m = i + 1 + t.length := ⟨_, rfl⟩
                have hml : m ≤ s.size := by have := br_le l (i + 1) (by omega); rw [ht] at this; omega
                have HK : Hid (BScan s (i + 1) m) := by
                  have := bscan_of s l (i + 1) HL.out
                  rw [ht, ← hm] at this
                  exact this
                have HE : Hid ((s.extract (i + 1) m).data.toList = t) := by
                  have := ext_br HL.out (i + 1)
                  rw [ht, ← hm] at this
                  exact this
                rw [ht, ← hm, hll] at HX
                have HX2 : Hid (nextE l i = if t = [] ∨ s.size ≤ m then none else some (t, true, m + 1)) := HX
                have HM : Hid (m = i + 1 + t.length) := hm
                have hmi : i + 1 ≤ m := by omega
                clear HX ht h46 h91 hm
                go_upto_block 6 with fail
                go_cut [9] (fun x wc => x = .int .i64 m ∧ wc = wr)
                case first =>
                  go_wp2
                  go_loopg [9] (m - (i + 1)) (fun g x wx => ∃ j : Nat, j + g = m ∧ i + 1 ≤ j ∧ x = .int .i64 j ∧ wx = wr)
                  case atStart => exact ⟨i + 1, by omega, by omega, by first | rfl | simp, rfl⟩
                  case round =>
                    obtain ⟨j, hjg, hij, rfl, rfl⟩ := hrel
                    by_cases hjl : j < s.size
                    · rcases HK.out j hij (by omega) hjl with ⟨h1, h2⟩ | ⟨h1, h2⟩
                      · obtain ⟨g', rfl⟩ : ∃ g', gk = g' + 1 := ⟨gk - 1, by omega⟩
                        go_wp2
                        go_roundg g'
                        case measure => omega
                        case rel => exact ⟨j + 1, by omega, by omega, by first | rfl | simp, rfl⟩
                      · subst h1
                        go_wp2
                        go_meet
                        exact ⟨rfl, rfl⟩
                    · obtain rfl : j = m := by omega
                      go_wp2
                      go_meet
                      exact ⟨rfl, rfl⟩
                case rest =>
                  obtain ⟨rfl, rfl⟩ := hcut
                  by_cases h1 : t = [] ∨ s.size ≤ m
                  · have HN : Hid (P = (false, dd, cc)) := by
                      show _ = _
                      rw [← HPP.out, HX2.out, if_pos h1]
                    by_cases h2 : m = s.size
                    · have hz1 : ((m : Int) == (s.size : Int)) = true := by rw [beq_iff_eq]; omega
                      clear h1
                      subst h2
                      go_wp2
                      rw [HN.out]
                      exact bodyPost_ret (v := .tuple #[.bool false, .bool dd, .bool cc]) (by simp [results, Try.results14, go_sem]) rfl ⟨rfl, rfl⟩
                    · have hz1 : ((m : Int) == (s.size : Int)) = false := by rw [beq_eq_false_iff_ne]; omega
                      have ht0 : t = [] := by rcases h1 with h1 | h1; exact h1; omega
                      have hz : ((m : Int) == (i : Int) + 1) = true := by have hm := HM.out; rw [beq_iff_eq]; subst ht0; simp at hm; omega
                      clear h1 ht0
                      go_wp2
                      rw [HN.out]
                      exact bodyPost_ret (v := .tuple #[.bool false, .bool dd, .bool cc]) (by simp [results, Try.results14, go_sem]) rfl ⟨rfl, rfl⟩
                  · have h1' : t ≠ [] ∧ m < s.size := by
                      simp only [not_or] at h1
                      exact ⟨h1.1, by omega⟩
                    have hpos : 0 < t.length := List.length_pos_iff.2 h1'.1
                    have hms := h1'.2
                    have hmi2 : i + 1 < m := by have hm := HM.out; omega
                    have hz : ((m : Int) == (i : Int) + 1) = false := by rw [beq_eq_false_iff_ne]; omega
                    have hz1 : ((m : Int) == (s.size : Int)) = false := by rw [beq_eq_false_iff_ne]; omega
                    obtain ⟨b2, hb2⟩ : ∃ b2, digs t = b2 := ⟨_, rfl⟩
                    have HN : Hid (parse l g (m + 1) (dd && b2) cc = P) := by
                      have h2 := HPP.out
                      rw [HX2.out, if_neg h1] at h2
                      simp only [Bool.not_true, Bool.false_or, Bool.and_true, Bool.true_or, hb2] at h2
                      exact h2
                    have HC : Hid (∀ w, Calls Try.prog 25 #[.string (s.extract (i + 1) m)] w fun e w' => e = .returned (.bool b2) ∧ w' = w) := by
                      intro w
                      rw [← hb2]
                      exact allDigits_any _ _ w HE.out.symm (by simp; omega)
                    clear hb2 h1 h1'
                    cases b2
                    · go_wp2_with (go_at_call 25; refine (HC.out _).mono ?_; rintro e w' ⟨rfl, rfl⟩)
                      go_roundg g
                      case measure => omega
                      case rel => exact ⟨m + 1, dd && false, cc, by simp, rfl, by first | rfl | simp, by omega, by omega, by omega, HN.out, rfl⟩
                    · go_wp2_with (go_at_call 25; refine (HC.out _).mono ?_; rintro e w' ⟨rfl, rfl⟩)
                      go_roundg g
                      case measure => omega
                      case rel => exact ⟨m + 1, dd && true, cc, by simp, rfl, by first | rfl | simp, by omega, by omega, by omega, HN.out, rfl⟩
              · have c2 : ((s[i].toNat : Int) == 91) = false := by rw [beq_eq_false_iff_ne]; exact u8_ne h91
                have HN : Hid (P = (false, dd, cc)) := by
                  have h1 : nextE l i = none := by
                    unfold nextE
                    rw [if_neg (by omega), if_neg (by rw [H0.out]; simp [h91]), if_pos ⟨hi0, by rw [H0.out]; simp [h46]⟩]
                  show _ = _
                  rw [← HPP.out, h1]
                clear h46 h91
                go_wp2
                rw [HN.out]
                exact bodyPost_ret (v := .tuple #[.bool false, .bool dd, .bool cc]) (by simp [results, Try.results14, go_sem]) rfl ⟨rfl, rfl⟩
          · obtain rfl : i = s.size := by omega
            have HN : Hid (P = (true, dd, cc)) := by
              show _ = _
              rw [← HQ.out]
              cases gk with
              | zero => simp [parse, hll]
              | succ g =>
                unfold parse
                rw [if_pos ⟨hll.symm, hi0⟩]
            go_wp2
            rw [HN.out]
            exact bodyPost_ret (v := .tuple #[.bool true, .bool dd, .bool cc]) (by simp [results, Try.results14, go_sem]) rfl ⟨rfl, rfl⟩
end Go.Proofs.Qxb6000821a
