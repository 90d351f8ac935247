import Derived.Test.Qxb6000821aLawI
import Derived.Test.Qxb6000821aWalkF
namespace Go.Proofs.Qxb6000821a
open Go.RowKit

theorem bytesI_ok (a : Option Addr) (n c : Nat) (s : ByteArray) (w : World) (h : n + s.size ≤ 1048576) :
    Calls Try.prog 12 #[.slice a n c, .string s] w fun e w' => e = .returned (.bool true) ∧ w' = w := by
  have e1 : ¬ ((1048576 : Int) < (n : Int)) := by omega
  have e2 : ¬ ((1048576 : Int) < (s.size : Int)) := by omega
  have e3 : ¬ ((1048576 : Int) < (n : Int) + (s.size : Int)) := by omega
  go_enter Try.func12, Try.ntmps12
  go_wp2
  go_ret
  exact ⟨rfl, rfl⟩

theorem bytesI_no (a : Option Addr) (n c : Nat) (s : ByteArray) (w : World) (h : ¬ n + s.size ≤ 1048576) :
    Calls Try.prog 12 #[.slice a n c, .string s] w fun e w' => e = .returned (.bool false) ∧ w' = w := by
  by_cases h1 : 1048576 < n
  · have e1 : ((1048576 : Int) < (n : Int)) := by omega
    go_enter Try.func12, Try.ntmps12
    go_wp2
    go_ret
    exact ⟨rfl, rfl⟩
  · have e1 : ¬ ((1048576 : Int) < (n : Int)) := by omega
    by_cases h2 : 1048576 < s.size
    · have e2 : ((1048576 : Int) < (s.size : Int)) := by omega
      go_enter Try.func12, Try.ntmps12
      go_wp2
      go_ret
      exact ⟨rfl, rfl⟩
    · have e2 : ¬ ((1048576 : Int) < (s.size : Int)) := by omega
      have e3 : ((1048576 : Int) < (n : Int) + (s.size : Int)) := by omega
      go_enter Try.func12, Try.ntmps12
      go_wp2
      go_ret
      exact ⟨rfl, rfl⟩


set_option maxHeartbeats 4000000 in
theorem walkI (a : Option Addr) (n c : Nat) (D : List UInt8) (s : ByteArray) (w : World) (hr : Reads w (.slice a n c) D) :
    Calls Try.prog 4 #[.slice a n c, .string s] w fun e w' => e = .returned (.bool true) ∧ Below w.heap.size w w' := by
  by_cases h1 : n + s.size ≤ 1048576
  · by_cases h2 : n ≤ 262144
    · by_cases h3 : s.size ≤ 262144
      · have e2 : ¬ ((262144 : Int) < (n : Int)) := by omega
        have e3 : ¬ ((262144 : Int) < (s.size : Int)) := by omega
        go_enter Try.func4, Try.ntmps4
        go_wp2_with (go_at_call 12; refine (bytesI_ok _ _ _ _ _ h1).mono ?_; rintro e w' ⟨rfl, rfl⟩)
        obtain ⟨l, hl⟩ : ∃ l, l = s.data.toList := ⟨_, rfl⟩
        have HL : Hid (l = s.data.toList) := hl
        have hll : l.length = s.size := by rw [hl]; simp
        have HR : Hid (Reads w' (.slice a n c) D) := hr
        have HN : Hid (n = D.length) := hr.len
        clear hl hr
        go_loopg [5] s.size (fun g x wx => ∃ k : Nat, k + g = s.size ∧ x = .int .i64 k ∧ (∀ c ∈ l.take k, c ≠ 0 ∧ c ≠ 255) ∧ wx = w')
        case atStart => exact ⟨0, by omega, rfl, by simp, rfl⟩
        case round =>
          obtain ⟨k, hkg, rfl, h255, rfl⟩ := hrel
          have H255 : Hid (∀ c ∈ l.take k, c ≠ 0 ∧ c ≠ 255) := h255
          clear h255
          cases gk with
          | succ g =>
            have hk : k < s.size := by omega
            have hkz : (k : Int) < (s.size : Int) := by omega
            by_cases hp : s[k].toNat = 0
            · have hp1 : ((s[k].toNat : Int) == 0) = true := by rw [hp]; rfl
              clear hp
              go_wp2
              go_ret
              exact ⟨rfl, Below.refl _ _⟩
            · have hp1 : ((s[k].toNat : Int) == 0) = false := by rw [beq_eq_false_iff_ne]; omega
              by_cases hq : s[k].toNat = 255
              · have hq1 : ((s[k].toNat : Int) == 255) = true := by rw [hq]; rfl
                clear hq hp
                go_wp2
                go_ret
                exact ⟨rfl, Below.refl _ _⟩
              · have hq1 : ((s[k].toNat : Int) == 255) = false := by rw [beq_eq_false_iff_ne]; omega
                have HX : Hid (∀ c ∈ l.take (k + 1), c ≠ 0 ∧ c ≠ 255) := by
                  intro c hc
                  rw [take_snoc l k (by omega)] at hc
                  rcases List.mem_append.1 hc with hc | hc
                  · exact H255.out c hc
                  · have h0 := name_at HL.out k hk
                    rw [List.getElem?_eq_getElem (by omega)] at h0
                    obtain rfl : c = l[k] := by simpa using hc
                    rw [Option.some.inj h0]
                    exact ⟨fun e => hp (by rw [e]; rfl), fun e => hq (by rw [e]; rfl)⟩
                clear hq hp
                go_wp2
                go_roundg g
                case measure => omega
                case rel => exact ⟨k + 1, by omega, by first | rfl | simp, HX.out, rfl⟩
          | zero =>
            obtain rfl : k = s.size := by omega
            have HA : Hid (∀ c ∈ l, c ≠ 0 ∧ c ≠ 255) := by
              have := H255.out
              rw [List.take_of_length_le (by omega)] at this
              exact this
            clear H255
            go_wp2_with fail
            refine (clone_any _ _ _ _ D (by rw [← HN.out]; omega) HR.out).mono ?_
            rintro e w1 ⟨v1, rfl, hH1, hB1⟩
            obtain ⟨a1, c1, rfl, hc1⟩ := hH1.slice
            have H1 : Hid (Holds wr.heap.size w1 (.slice a1 D.length c1) D) := hH1
            have B1 : Hid (Below wr.heap.size wr w1) := hB1
            clear hH1 hB1
            go_wp2_with fail
            refine (clone_any _ _ _ _ D (by rw [← HN.out]; omega) H1.out.reads).mono ?_
            rintro e w2 ⟨v2, rfl, hH2, hB2⟩
            obtain ⟨a2, c2, rfl, hc2⟩ := hH2.slice
            have H2 : Hid (Holds w1.heap.size w2 (.slice a2 D.length c2) D) := hH2
            have B2 : Hid (Below w1.heap.size w1 w2) := hB2
            clear hH2 hB2
            go_wp2_with fail
            refine (ident_any _).mono ?_
            rintro e w3 ⟨rfl, hB3⟩
            have B3 : Hid (Below w2.heap.size w2 w3) := hB3
            clear hB3
            obtain ⟨R, hR⟩ : ∃ R, lead id true l (l.length + 1) 0 [] true = R := ⟨_, rfl⟩
            obtain ⟨P, hP⟩ : ∃ P, parse l (l.length + 1) 0 true true = P := ⟨_, rfl⟩
            have Hzz := after_zz id true s l D a1 a2 c1 c2 wr w1 w2 w3 HL.out (by omega) (by rw [← HN.out]; omega) H1.out B1.out H2.out B2.out B3.out (fun c hc => (HA.out c hc).2) R hR
            have hsync := id_sync l (fun c hc => (HA.out c hc).1) (fun c hc => (HA.out c hc).2) l.length 0 true true (.inr rfl) (Nat.zero_le _) (by omega)
            rw [List.take_zero, hR, hP] at hsync
            have HPC : Hid (∀ w, Calls Try.prog 14 #[.string s] w fun e w' => e = .returned (.tuple #[.bool P.1, .bool P.2.1, .bool P.2.2]) ∧ w' = w) := fun w => parse_any s l w HL.out (by omega) P hP
            obtain ⟨S, b⟩ := R
            obtain ⟨ok, dg, cn'⟩ := P
            simp only at hsync Hzz HPC
            obtain ⟨q1, q2, q3⟩ := hsync
            have hp : pre l S = true := by rw [q1]; exact pre_iff.2 (List.take_prefix _ _)
            rw [hp, hold_yes hp, q2] at Hzz
            have hSl := pre_le hp
            have hDl : D.length ≤ 262144 := by rw [← HN.out]; omega
            have HZ : Hid _ := Hzz
            have f0 : (S.length : Int) ≤ (s.size : Int) := by omega
            have f1 : decide ((S.length : Int) < 0) = false := by simp
            have f2 : decide (s.size < S.length) = false := by simp; omega
            have f3 : ((S.length : Int) == (s.size : Int)) = (ok || ((s.size : Int) == 0)) := by
              rw [hll] at q3
              cases ok with
              | true =>
                rw [Bool.true_or, beq_iff_eq]
                have := q3.2 (.inl rfl)
                omega
              | false =>
                rw [Bool.false_or]
                by_cases hz : s.size = 0
                · have := q3.2 (.inr hz)
                  rw [this, hz]
                  rfl
                · have h4 : S.length ≠ s.size := fun e => by rcases q3.1 e with h | h; cases h; omega
                  rw [(beq_eq_false_iff_ne (a := (S.length : Int)) (b := (s.size : Int))).2 (by omega), (beq_eq_false_iff_ne (a := (s.size : Int)) (b := 0)).2 (by omega)]
            clear hR hP Hzz q1 q2 q3 hp HA HR HN
            go_wp2_with fail
            refine Calls.mono HZ.out ?_
            rintro e w4 ⟨a4, c4, rfl, hc4, h4, h42, hB4⟩
            have HE : Hid (Calls Try.prog 11 #[.slice a4 D.length c4, .slice a2 D.length c2] w4 fun e w' => e = .returned (.bool true) ∧ ∃ n, w' = w4.drewN n) := eq_true w4 _ _ _ _ _ _ D (by omega) h4 h42
            have B4 : Hid (Below wr.heap.size wr w4) := hB4
            clear h4 h42 hB4 HZ
            go_wp2_with (first | (go_at_call 11; refine Calls.mono HE.out ?_; rintro e w5 ⟨rfl, N, rfl⟩) | (go_at_call 14; refine Calls.mono (HPC.out _) ?_; rintro e w6 ⟨rfl, rfl⟩))
            all_goals
              go_ret
              exact ⟨rfl, below_drewN B4.out N⟩
      · have e2 : ¬ ((262144 : Int) < (n : Int)) := by omega
        have e3 : ((262144 : Int) < (s.size : Int)) := by omega
        go_enter Try.func4, Try.ntmps4
        go_wp2_with (go_at_call 12; refine (bytesI_ok _ _ _ _ _ h1).mono ?_; rintro e w' ⟨rfl, rfl⟩)
        go_ret
        exact ⟨rfl, Below.refl _ _⟩
    · have e2 : ((262144 : Int) < (n : Int)) := by omega
      go_enter Try.func4, Try.ntmps4
      go_wp2_with (go_at_call 12; refine (bytesI_ok _ _ _ _ _ h1).mono ?_; rintro e w' ⟨rfl, rfl⟩)
      go_ret
      exact ⟨rfl, Below.refl _ _⟩
  · go_enter Try.func4, Try.ntmps4
    go_wp2_with (go_at_call 12; refine (bytesI_no _ _ _ _ _ h1).mono ?_; rintro e w' ⟨rfl, rfl⟩)
    go_ret
    exact ⟨rfl, Below.refl _ _⟩
end Go.Proofs.Qxb6000821a
