import Derived.Test.Qxb6000821aClass
import Derived.Test.Qxb6000821aNext
import Derived.Deep.LoopGhost
namespace Go.Proofs.Qxb6000821a
open Go.RowKit

def digN (i : Nat) : Bool := decide (48 ≤ i) && decide (i ≤ 57)
/-- A letter or a digit. -/
def alN (i : Nat) : Bool := (decide (97 ≤ i) && decide (i ≤ 122)) || (decide (65 ≤ i) && decide (i ≤ 90)) || digN i
/-- Is the text of a dot element canonical input? -/
def dotC (t : List UInt8) : Bool := (t.all fun c => decide (c.toNat = 45) || alN c.toNat) && t.any fun c => decide (c.toNat ≠ 45)

theorem all_no {p : UInt8 → Bool} {t : List UInt8} {c : UInt8} (h : c ∈ t) (hp : p c = false) : t.all p = false := by
  cases ha : t.all p with
  | false => rfl
  | true =>
    rw [List.all_eq_true] at ha
    rw [ha c h] at hp
    cases hp

set_option maxHeartbeats 1000000 in
theorem allDigits_any (s : ByteArray) (t : List UInt8) (w : World) (ht : t = s.data.toList) (hs : s.size ≤ 1048576) :
    Calls Try.prog 25 #[.string s] w fun e w' => e = .returned (.bool (digs t)) ∧ w' = w := by
  have htl : t.length = s.size := by rw [ht]; simp
  have HT : Hid (t = s.data.toList) := ht
  clear ht
  by_cases h0 : s.size = 0
  · have hd : digs t = false := by
      have : t = [] := List.eq_nil_of_length_eq_zero (by omega)
      subst this; rfl
    have hz : ((s.size : Int) == 0) = true := by rw [h0]; rfl
    rw [hd]
    clear hd HT
    go_enter Try.func25, Try.ntmps25
    go_wp2
    go_ret
    exact ⟨rfl, rfl⟩
  · have hz : ((s.size : Int) == 0) = false := by rw [beq_eq_false_iff_ne]; omega
    obtain ⟨r, hr⟩ : ∃ r, digs t = r := ⟨_, rfl⟩
    have HR : Hid (r = t.all fun c => digN c.toNat) := by
      show r = _
      rw [← hr]
      unfold digs
      have : t.isEmpty = false := by cases t with | nil => simp at htl; omega | cons _ _ => rfl
      rw [this]
      rfl
    rw [hr]
    clear hr
    go_enter Try.func25, Try.ntmps25
    go_wp2
    go_loopg [3] s.size (fun g x wx => ∃ k : Nat, k + g = s.size ∧ x = .int .i64 k ∧ ((t.take k).all fun c => digN c.toNat) = true ∧ wx = w)
    case atStart => exact ⟨0, by omega, rfl, by simp, rfl⟩
    case round =>
      obtain ⟨k, hkg, rfl, hall, rfl⟩ := hrel
      have HA : Hid (((t.take k).all fun c => digN c.toNat) = true) := hall
      clear hall
      cases gk with
      | succ g =>
        have hk : k < s.size := by omega
        have hkz : (k : Int) < (s.size : Int) := by omega
        have h0' := name_at HT.out k hk
        have H0 : Hid (t[k]? = some s[k]) := h0'
        clear h0'
        obtain ⟨q, hq⟩ : ∃ q, digN s[k].toNat = q := ⟨_, rfl⟩
        have HQ : Hid (∀ w, Calls Try.prog 26 #[.int .u8 (s[k].toNat : Nat)] w fun e w' => e = .returned (.bool q) ∧ w' = w) := fun w => isDigit_any _ q hq w
        cases q with
        | false =>
          have HF : Hid (r = false) := by
            show _ = _
            rw [HR.out]
            exact all_no (List.mem_of_getElem? H0.out) hq
          clear hq
          go_wp2_with (go_at_call 26; refine (HQ.out _).mono ?_; rintro e w' ⟨rfl, rfl⟩)
          go_ret
          exact ⟨by rw [HF.out]; rfl, rfl⟩
        | true =>
          have HN : Hid (((t.take (k + 1)).all fun c => digN c.toNat) = true) := by
            show _ = _
            have h1 := H0.out
            rw [List.getElem?_eq_getElem (by omega)] at h1
            rw [take_snoc t k (by omega), List.all_append, HA.out, Option.some.inj h1]
            simp [hq]
          clear hq
          go_wp2_with (go_at_call 26; refine (HQ.out _).mono ?_; rintro e w' ⟨rfl, rfl⟩)
          go_roundg g
          case measure => omega
          case rel => exact ⟨k + 1, by omega, by first | rfl | simp, HN.out, rfl⟩
      | zero =>
        obtain rfl : k = s.size := by omega
        have HF : Hid (r = true) := by
          have := HA.out
          rw [List.take_of_length_le (by omega)] at this
          show _ = _
          rw [HR.out, this]
        go_wp2
        go_ret
        exact ⟨by rw [HF.out]; rfl, rfl⟩

set_option maxHeartbeats 4000000 in
theorem dotC_any (s : ByteArray) (t : List UInt8) (w : World) (ht : t = s.data.toList) (hs : s.size ≤ 1048576) :
    Calls Try.prog 24 #[.string s] w fun e w' => e = .returned (.bool (dotC t)) ∧ w' = w := by
  have htl : t.length = s.size := by rw [ht]; simp
  have HT : Hid (t = s.data.toList) := ht
  clear ht
  obtain ⟨r, hr⟩ : ∃ r, dotC t = r := ⟨_, rfl⟩
  have HR : Hid (r = ((t.all fun c => decide (c.toNat = 45) || alN c.toNat) && t.any fun c => decide (c.toNat ≠ 45))) := hr.symm
  rw [hr]
  clear hr
  go_enter Try.func24, Try.ntmps24
  go_wp2
  go_loopg [3, 4] s.size (fun g x y wx => ∃ k : Nat, k + g = s.size ∧ x = .bool ((t.take k).any fun c => decide (c.toNat ≠ 45)) ∧ y = .int .i64 k ∧ ((t.take k).all fun c => decide (c.toNat = 45) || alN c.toNat) = true ∧ wx = w)
  case atStart => exact ⟨0, by omega, rfl, rfl, by simp, rfl⟩
  case round =>
    obtain ⟨k, hkg, rfl, rfl, hall, rfl⟩ := hrel
    have HA : Hid (((t.take k).all fun c => decide (c.toNat = 45) || alN c.toNat) = true) := hall
    clear hall
    obtain ⟨F, hF⟩ : ∃ F, ((t.take k).any fun c => decide (c.toNat ≠ 45)) = F := ⟨_, rfl⟩
    rw [hF]
    cases gk with
    | succ g =>
      have hk : k < s.size := by omega
      have hkz : (k : Int) < (s.size : Int) := by omega
      have h0' := name_at HT.out k hk
      have H0 : Hid (t[k]? = some s[k]) := h0'
      have HS : Hid (t.take (k + 1) = t.take k ++ [s[k]]) := by
        show _ = _
        rw [take_snoc t k (by omega)]
        rw [List.getElem?_eq_getElem (by omega)] at h0'
        rw [Option.some.inj h0']
      clear h0'
      have HF : Hid (((t.take k).any fun c => decide (c.toNat ≠ 45)) = F) := hF
      clear hF
      by_cases h45 : s[k].toNat = 45
      · have c5 : ((s[k].toNat : Int) == 45) = true := by rw [h45]; rfl
        have HN : Hid (((t.take (k + 1)).all fun c => decide (c.toNat = 45) || alN c.toNat) = true ∧ ((t.take (k + 1)).any fun c => decide (c.toNat ≠ 45)) = F) := by
          show _ ∧ _
          rw [HS.out, List.all_append, List.any_append, HA.out, HF.out]
          simp [h45]
        clear h45
        go_wp2
        go_roundg g
        case measure => omega
        case rel => exact ⟨k + 1, by omega, by rw [HN.out.2], by first | rfl | simp, HN.out.1, rfl⟩
      · have c5 : ((s[k].toNat : Int) == 45) = false := by rw [beq_eq_false_iff_ne]; omega
        cases hal : alN s[k].toNat with
        | true =>
          have HN : Hid (((t.take (k + 1)).all fun c => decide (c.toNat = 45) || alN c.toNat) = true ∧ ((t.take (k + 1)).any fun c => decide (c.toNat ≠ 45)) = true) := by
            show _ ∧ _
            rw [HS.out, List.all_append, List.any_append, HA.out]
            simp [hal, h45]
          unfold alN digN at hal
          simp at hal
          rcases ranges _ h45 with h | h | h | h | h | h | h | h
          all_goals try (exfalso; omega)
          all_goals
            first | have c1 : (97 : Int) ≤ (s[k].toNat : Int) := by omega | have c1 : ¬ (97 : Int) ≤ (s[k].toNat : Int) := by omega
            first | have c2 : (s[k].toNat : Int) ≤ 122 := by omega | have c2 : ¬ (s[k].toNat : Int) ≤ 122 := by omega
            first | have c3 : (65 : Int) ≤ (s[k].toNat : Int) := by omega | have c3 : ¬ (65 : Int) ≤ (s[k].toNat : Int) := by omega
            first | have c4 : (s[k].toNat : Int) ≤ 90 := by omega | have c4 : ¬ (s[k].toNat : Int) ≤ 90 := by omega
            first | have hdg := isDigit_any s[k].toNat true (by simp; omega) | have hdg := isDigit_any s[k].toNat false (by simp; omega)
            have HD : Hid _ := hdg
            clear h hal h45 hdg
            go_wp2_with (go_at_call 26; refine Calls.mono (HD.out _) ?_; rintro e w' ⟨rfl, rfl⟩)
            go_roundg g
            case measure => omega
            case rel => exact ⟨k + 1, by omega, by rw [HN.out.2], by first | rfl | simp, HN.out.1, rfl⟩
        | false =>
          have HN : Hid (r = false) := by
            show _ = _
            rw [HR.out, all_no (List.mem_of_getElem? H0.out) (by simp [h45, hal])]
            rfl
          unfold alN digN at hal
          simp at hal
          rcases ranges _ h45 with h | h | h | h | h | h | h | h
          all_goals try (exfalso; omega)
          all_goals
            first | have c1 : (97 : Int) ≤ (s[k].toNat : Int) := by omega | have c1 : ¬ (97 : Int) ≤ (s[k].toNat : Int) := by omega
            first | have c2 : (s[k].toNat : Int) ≤ 122 := by omega | have c2 : ¬ (s[k].toNat : Int) ≤ 122 := by omega
            first | have c3 : (65 : Int) ≤ (s[k].toNat : Int) := by omega | have c3 : ¬ (65 : Int) ≤ (s[k].toNat : Int) := by omega
            first | have c4 : (s[k].toNat : Int) ≤ 90 := by omega | have c4 : ¬ (s[k].toNat : Int) ≤ 90 := by omega
            have hdg := isDigit_any s[k].toNat false (by simp; omega)
            have HD : Hid _ := hdg
            clear h hal h45 hdg
            go_wp2_with (go_at_call 26; refine Calls.mono (HD.out _) ?_; rintro e w' ⟨rfl, rfl⟩)
            go_ret
            exact ⟨by rw [HN.out]; rfl, rfl⟩
    | zero =>
      obtain rfl : k = s.size := by omega
      have HN : Hid (r = F) := by
        have h1 := HA.out
        rw [List.take_of_length_le (by omega)] at h1 hF
        show _ = _
        rw [HR.out, h1, hF]
        rfl
      clear hF
      go_wp2
      go_ret
      exact ⟨by rw [HN.out]; rfl, rfl⟩
end Go.Proofs.Qxb6000821a
