import Derived.Test.Qxb6000821aLawF
import Derived.Test.Qxb6000821aZZ
import Derived.Test.Qxb6000821aTab
import Derived.Test.Qxb6000821aRead
namespace Go.Proofs.Qxb6000821a
open Go.RowKit

theorem bytesF_ok (a : Option Addr) (n c : Nat) (s : ByteArray) (b : Bool) (w : World) (h : n + s.size ≤ 1048576) :
    Calls Try.prog 20 #[.slice a n c, .string s, .bool b] w fun e w' => e = .returned (.bool true) ∧ w' = w := by
  have e1 : ¬ ((1048576 : Int) < (n : Int)) := by omega
  have e2 : ¬ ((1048576 : Int) < (s.size : Int)) := by omega
  have e3 : ¬ ((1048576 : Int) < (n : Int) + (s.size : Int)) := by omega
  go_enter Try.func20, Try.ntmps20
  go_wp2
  go_ret
  exact ⟨rfl, rfl⟩

theorem bytesF_no (a : Option Addr) (n c : Nat) (s : ByteArray) (b : Bool) (w : World) (h : ¬ n + s.size ≤ 1048576) :
    Calls Try.prog 20 #[.slice a n c, .string s, .bool b] w fun e w' => e = .returned (.bool false) ∧ w' = w := by
  by_cases h1 : 1048576 < n
  · have e1 : ((1048576 : Int) < (n : Int)) := by omega
    go_enter Try.func20, Try.ntmps20
    go_wp2
    go_ret
    exact ⟨rfl, rfl⟩
  · have e1 : ¬ ((1048576 : Int) < (n : Int)) := by omega
    by_cases h2 : 1048576 < s.size
    · have e2 : ((1048576 : Int) < (s.size : Int)) := by omega
      go_enter Try.func20, Try.ntmps20
      go_wp2
      go_ret
      exact ⟨rfl, rfl⟩
    · have e2 : ¬ ((1048576 : Int) < (s.size : Int)) := by omega
      have e3 : ((1048576 : Int) < (n : Int) + (s.size : Int)) := by omega
      go_enter Try.func20, Try.ntmps20
      go_wp2
      go_ret
      exact ⟨rfl, rfl⟩

theorem Reads.cut {w : World} {a : Option Addr} {n c : Nat} {D Y : List UInt8} (h : Reads w (.slice a n c) Y) (hD : D <+: Y) : Reads w (.slice a D.length c) D := by
  obtain ⟨S, rfl⟩ := hD
  rcases h with ⟨h1, h2⟩ | ⟨x, cap, h1, h2, h3, h4⟩
  · cases h1
    obtain ⟨rfl, rfl⟩ := List.append_eq_nil_iff.1 h2
    exact .inl ⟨rfl, rfl⟩
  · cases h1
    refine .inr ⟨x, c, rfl, by simp at h2; omega, h3, fun j hj => ?_⟩
    rw [h4 j (by simp; omega), List.getElem_append_left hj]
theorem lead_len (ch : UInt8 → UInt8) (asw : Bool) (l : List UInt8) : ∀ (f i : Nat) (S : List UInt8) (inF : Bool), S.length ≤ i → i ≤ l.length → (lead ch asw l f i S inF).1.length ≤ l.length
  | 0, i, S, _, h, hi => by simp only [lead]; omega
  | f + 1, i, S, inF, h, hi => by
    unfold lead
    split
    · simp only; omega
    · rename_i t br nx hn
      obtain ⟨h1, h2, _, _, h4, _, _⟩ := nextE_facts hn
      have hle := elOut_le ch t br
      simp only [List.length_append] at h4
      split
      · split
        · simp only [List.length_append]; omega
        · exact lead_len ch asw l f nx _ inF (by simp only [List.length_append]; omega) h2
      · split
        · split
          · simp only [List.length_append]; omega
          · exact lead_len ch asw l f nx _ false (by simp only [List.length_append]; omega) h2
        · simp only; omega
theorem below_le {B C : Nat} {w w' : World} (h : Below C w w') (hB : B ≤ C) : Below B w w' := ⟨h.os, h.tape, h.output, h.size, fun k hk => h.block k (by omega)⟩

/-- The call of appendLeading on the copy v1, the second copy v2 aside. -/
theorem after_zz (ch : UInt8 → UInt8) (asw : Bool) (s : ByteArray) (l D : List UInt8) (a1 a2 : Option Addr) (c1 c2 : Nat) (w w1 w2 w3 : World) (hl : l = s.data.toList) (hs : s.size ≤ 1048576) (hD : D.length ≤ 1048576)
    (H1 : Holds w.heap.size w1 (.slice a1 D.length c1) D) (B1 : Below w.heap.size w w1) (H2 : Holds w1.heap.size w2 (.slice a2 D.length c2) D) (B2 : Below w1.heap.size w1 w2) (B3 : Below w2.heap.size w2 w3)
    (h255 : ∀ c ∈ l, c ≠ 255) (R : List UInt8 × Bool) (hR : lead ch asw l (l.length + 1) 0 [] true = R) :
    Calls Try.prog 9 #[.agg (tab ch 256), .string ⟨#[46]⟩, .string ⟨#[91]⟩, .string ⟨#[93]⟩, .slice a1 D.length c1, .string s, .bool asw] w3 fun e w4 =>
      ∃ a4 c4, e = .returned (.tuple #[.slice a4 (hold D l R.1).length c4, .int .i64 R.1.length, .bool (pre l R.1), .bool R.2]) ∧ (hold D l R.1).length ≤ c4 ∧ Reads w4 (.slice a4 (hold D l R.1).length c4) (hold D l R.1) ∧ Reads w4 (.slice a2 D.length c2) D ∧ Below w.heap.size w w4 := by
  have z1 := B1.size
  have z2 := B2.size
  have z3 := B3.size
  have K1 : Holds w.heap.size w3 (.slice a1 D.length c1) D := by
    refine H1.kept fun g hg => ?_
    have := (H1.base g hg).2
    rw [B3.block g (by omega), B2.block g this]
  have K2 : Holds w1.heap.size w3 (.slice a2 D.length c2) D := by
    refine H2.kept fun g hg => ?_
    exact B3.block g (H2.base g hg).2
  refine (zz_any w.heap.size ch asw s l D a1 D.length c1 w3 hl hs hD (by omega) K1 h255 R hR).mono ?_
  rintro e w4 ⟨v', rfl, hv', hst⟩
  obtain ⟨a4, c4, rfl, hc4⟩ := hv'.slice
  refine ⟨a4, c4, rfl, hc4, hv'.reads, ?_, ?_⟩
  · refine (K2.kept fun g hg => ?_).reads
    refine hst.block g (K2.base g hg).2 fun e => ?_
    have h5 := (K2.base g hg).1
    have h6 := (H1.base g e).2
    omega
  · have hb : Below w.heap.size w3 w4 := hst.below (by omega) fun g hg => (K1.base g hg).1
    exact ((B1.trans (below_le B2 z1)).trans (below_le B3 (by omega))).trans hb

set_option maxHeartbeats 1000000 in
theorem walkF (a : Option Addr) (n c : Nat) (D : List UInt8) (s : ByteArray) (asw : Bool) (w : World) (hr : Reads w (.slice a n c) D) :
    Calls Try.prog 6 #[.slice a n c, .string s, .bool asw] w fun e w' => e = .returned (.bool true) ∧ Below w.heap.size w w' := by
  by_cases h1 : n + s.size ≤ 1048576
  · by_cases h2 : n ≤ 262144
    · by_cases h3 : s.size ≤ 262144
      · have e2 : ¬ ((262144 : Int) < (n : Int)) := by omega
        have e3 : ¬ ((262144 : Int) < (s.size : Int)) := by omega
        go_enter Try.func6, Try.ntmps6
        go_wp2_with (go_at_call 20; refine (bytesF_ok _ _ _ _ _ _ h1).mono ?_; rintro e w' ⟨rfl, rfl⟩)
        obtain ⟨l, hl⟩ : ∃ l, l = s.data.toList := ⟨_, rfl⟩
        have HL : Hid (l = s.data.toList) := hl
        have hll : l.length = s.size := by rw [hl]; simp
        have HR : Hid (Reads w' (.slice a n c) D) := hr
        have HN : Hid (n = D.length) := hr.len
        clear hl hr
        go_loopg [7] s.size (fun g x wx => ∃ k : Nat, k + g = s.size ∧ x = .int .i64 k ∧ (∀ c ∈ l.take k, c ≠ 255) ∧ wx = w')
        case atStart => exact ⟨0, by omega, rfl, by simp, rfl⟩
        case round =>
          obtain ⟨k, hkg, rfl, h255, rfl⟩ := hrel
          have H255 : Hid (∀ c ∈ l.take k, c ≠ 255) := h255
          clear h255
          cases gk with
          | succ g =>
            have hk : k < s.size := by omega
            have hkz : (k : Int) < (s.size : Int) := by omega
            by_cases hq : s[k].toNat = 255
            · have hq1 : ((s[k].toNat : Int) == 255) = true := by rw [hq]; rfl
              clear hq
              go_wp2
              go_ret
              exact ⟨rfl, Below.refl _ _⟩
            · have hq1 : ((s[k].toNat : Int) == 255) = false := by rw [beq_eq_false_iff_ne]; omega
              have HX : Hid (∀ c ∈ l.take (k + 1), c ≠ 255) := by
                intro c hc
                rw [take_snoc l k (by omega)] at hc
                rcases List.mem_append.1 hc with hc | hc
                · exact H255.out c hc
                · have h0 := name_at HL.out k hk
                  rw [List.getElem?_eq_getElem (by omega)] at h0
                  obtain rfl : c = l[k] := by simpa using hc
                  rw [Option.some.inj h0]
                  intro e
                  exact hq (by rw [e]; rfl)
              clear hq
              go_wp2
              go_roundg g
              case measure => omega
              case rel => exact ⟨k + 1, by omega, by first | rfl | simp, HX.out, rfl⟩
          | zero =>
            obtain rfl : k = s.size := by omega
            have HA255 : Hid (∀ c ∈ l, c ≠ 255) := by
              have := H255.out
              rw [List.take_of_length_le (by omega)] at this
              exact this
            clear H255
            go_wp2
            go_loopg [8, 9] s.size (fun g x y wx => ∃ k : Nat, k + g = s.size ∧ x = .bool (!(l.take k).all fun c => canB c.toNat) ∧ y = .int .i64 k ∧ wx = wr)
            case atStart => exact ⟨0, by omega, rfl, rfl, rfl⟩
            case round =>
              obtain ⟨k, hkg, rfl, rfl, rfl⟩ := hrel
              cases gk with
              | succ g =>
                have hk : k < s.size := by omega
                have hkz : (k : Int) < (s.size : Int) := by omega
                obtain ⟨F, hF⟩ : ∃ F, ((l.take k).all fun c => canB c.toNat) = F := ⟨_, rfl⟩
                have HX : Hid (((l.take (k + 1)).all fun c => canB c.toNat) = (F && canB s[k].toNat)) := by
                  have h0 := name_at HL.out k hk
                  rw [List.getElem?_eq_getElem (by omega)] at h0
                  show _ = _
                  rw [take_snoc l k (by omega), List.all_append, hF, Option.some.inj h0]
                  simp
                rw [hF]
                clear hF
                obtain ⟨q, hq⟩ : ∃ q, canB s[k].toNat = q := ⟨_, rfl⟩
                rw [hq] at HX
                have HQ : Hid (∀ w, Calls Try.prog 21 #[.int .u8 (s[k].toNat : Nat)] w fun e w' => e = .returned (.bool q) ∧ w' = w) := by
                  intro w
                  rw [← hq]
                  exact canonByte_any _ w
                clear hq
                cases q with
                | true =>
                  go_wp2_with (go_at_call 21; refine (HQ.out _).mono ?_; rintro e w' ⟨rfl, rfl⟩)
                  go_roundg g
                  case measure => omega
                  case rel => exact ⟨k + 1, by omega, by rw [HX.out]; simp, by first | rfl | simp, rfl⟩
                | false =>
                  go_wp2_with (go_at_call 21; refine (HQ.out _).mono ?_; rintro e w' ⟨rfl, rfl⟩)
                  go_roundg g
                  case measure => omega
                  case rel => exact ⟨k + 1, by omega, by rw [HX.out]; simp, by first | rfl | simp, rfl⟩
              | zero =>
                obtain rfl : k = s.size := by omega
                obtain ⟨F, hF⟩ : ∃ F, (!(l.take s.size).all fun c => canB c.toNat) = F := ⟨_, rfl⟩
                have HF : Hid (F = true → ¬ ∀ c ∈ l, canB c.toNat = true) := by
                  rintro rfl h
                  rw [List.take_of_length_le (by omega)] at hF
                  have : (l.all fun c => canB c.toNat) = true := by simpa using h
                  rw [this] at hF
                  cases hF
                rw [hF]
                clear hF
                go_wp2_with fail
                refine (clone_any _ _ _ _ D (by rw [← HN.out]; omega) HR.out).mono ?_
                rintro e w1 ⟨v1, rfl, hH1, hB1⟩
                obtain ⟨a1, c1, rfl, hc1⟩ := hH1.slice
                have H1 : Hid (Holds wr.heap.size w1 (.slice a1 D.length c1) D) := hH1
                have B1 : Hid (Below wr.heap.size wr w1) := hB1
                clear hH1 hB1
                go_wp2_with fail
                refine (clone_any _ _ _ _ D (by rw [← HN.out]; omega) H1.out.reads).mono ?_
                rintro e w2 ⟨v2, rfl, hH2, hB2⟩
                obtain ⟨a2, c2, rfl, hc2⟩ := hH2.slice
                have H2 : Hid (Holds w1.heap.size w2 (.slice a2 D.length c2) D) := hH2
                have B2 : Hid (Below w1.heap.size w1 w2) := hB2
                clear hH2 hB2
                go_wp2_with fail
                refine (canon_any _).mono ?_
                rintro e w3 ⟨rfl, hB3⟩
                have B3 : Hid (Below w2.heap.size w2 w3) := hB3
                clear hB3
                obtain ⟨R, hR⟩ : ∃ R, lead cch asw l (l.length + 1) 0 [] true = R := ⟨_, rfl⟩
                have Hzz := after_zz cch asw s l D a1 a2 c1 c2 wr w1 w2 w3 HL.out (by omega) (by rw [← HN.out]; omega) H1.out B1.out H2.out B2.out B3.out HA255.out R hR
                have HP1 : Hid (F = true → R.2 = false) := by
                  intro hf
                  cases h2 : R.2 with
                  | false => rfl
                  | true =>
                    rw [← hR] at h2
                    exact absurd (whole_can asw l _ 0 [] true (by simp) h2) (HF.out hf)
                have HP2 : Hid (asw = false → ∀ c ∈ R.1, spB c.toNat = true) := by
                  intro hf
                  rw [← hR, hf]
                  exact spelled_sp l _ 0 [] true (by simp)
                have hDl : D.length ≤ 262144 := by rw [← HN.out]; omega
                have hSb : R.1.length ≤ s.size := by
                  rw [← hR, ← hll]
                  exact lead_len cch asw l _ 0 [] true (Nat.le_refl _) (Nat.zero_le _)
                clear hR HF HA255 HR HN
                obtain ⟨S, b⟩ := R
                simp only at HP1 HP2 Hzz hSb
                cases hp : pre l S with
                | true =>
                  rw [hp, hold_yes hp] at Hzz
                  have HZ : Hid _ := Hzz
                  have hSl : (S.length : Int) ≤ (s.size : Int) := by have := pre_le hp; omega
                  have hSn : ¬ ((S.length : Int) < 0) := by omega
                  have HT : Hid (S = l.take S.length) := pre_take hp
                  have f1 : decide ((S.length : Int) < 0) = false := by simp
                  have f2 : decide (s.size < S.length) = false := by simp; omega
                  clear Hzz hp
                  rcases (show F = false ∨ (F = true ∧ b = false) from by cases hf : F; exact .inl rfl; exact .inr ⟨rfl, HP1.out hf⟩) with rfl | ⟨rfl, rfl⟩
                  all_goals
                    cases asw
                    · go_wp2_with fail
                      refine Calls.mono HZ.out ?_
                      rintro e w4 ⟨a4, c4, rfl, hc4, h4, h42, hB4⟩
                      have HE : Hid (Calls Try.prog 11 #[.slice a4 D.length c4, .slice a2 D.length c2] w4 fun e w' => e = .returned (.bool true) ∧ ∃ n, w' = w4.drewN n) := eq_true w4 _ _ _ _ _ _ D (by omega) h4 h42
                      have B4 : Hid (Below wr.heap.size wr w4) := hB4
                      clear h4 h42 hB4 HZ
                      go_wp2_with (go_at_call 11; refine Calls.mono HE.out ?_; rintro e w5 ⟨rfl, N, rfl⟩)
                      go_loopg [15] S.length (fun g x wx => ∃ k : Nat, k + g = S.length ∧ x = .int .i64 k ∧ wx = w4.drewN N)
                      case atStart => exact ⟨0, by omega, rfl, rfl⟩
                      case round =>
                        obtain ⟨k, hkg, rfl, rfl⟩ := hrel
                        cases gk with
                        | succ g =>
                          have hk : k < s.size := by omega
                          have hkS : (k : Int) < (S.length : Int) := by omega
                          have hkz : (k : Int) < (s.size : Int) := by omega
                          have HQ : Hid (∀ w, Calls Try.prog 22 #[.int .u8 (s[k].toNat : Nat)] w fun e w' => e = .returned (.bool true) ∧ w' = w) := by
                            intro w
                            have h0 := name_at HL.out k hk
                            have h1 : S[k]? = some s[k] := by
                              rw [HT.out, List.getElem?_take_of_lt (by omega)]
                              exact h0
                            have h2 := HP2.out (by first | trivial | rfl) s[k] (List.mem_of_getElem? h1)
                            rw [← h2]
                            exact spByte_any _ w
                          go_wp2_with (go_at_call 22; refine (HQ.out _).mono ?_; rintro e w' ⟨rfl, rfl⟩)
                          go_roundg g
                          case measure => omega
                          case rel => exact ⟨k + 1, by omega, by first | rfl | simp, rfl⟩
                        | zero =>
                          obtain rfl : k = S.length := by omega
                          go_wp2
                          go_ret
                          exact ⟨rfl, below_drewN B4.out N⟩
                    · go_wp2_with fail
                      refine Calls.mono HZ.out ?_
                      rintro e w4 ⟨a4, c4, rfl, hc4, h4, h42, hB4⟩
                      have HE : Hid (Calls Try.prog 11 #[.slice a4 D.length c4, .slice a2 D.length c2] w4 fun e w' => e = .returned (.bool true) ∧ ∃ n, w' = w4.drewN n) := eq_true w4 _ _ _ _ _ _ D (by omega) h4 h42
                      have B4 : Hid (Below wr.heap.size wr w4) := hB4
                      clear h4 h42 hB4 HZ
                      go_wp2_with (go_at_call 11; refine Calls.mono HE.out ?_; rintro e w5 ⟨rfl, N, rfl⟩)
                      go_ret
                      exact ⟨rfl, below_drewN B4.out N⟩
                | false =>
                  rw [hp, hold_no hp] at Hzz
                  obtain ⟨Y, hY⟩ : ∃ Y, D ++ S = Y := ⟨_, rfl⟩
                  rw [hY] at Hzz
                  have hYl : Y.length = D.length + S.length := by rw [← hY]; simp
                  have HY : Hid (D ++ S = Y) := hY
                  have HZ : Hid _ := Hzz
                  have y1 : ¬ ((D.length : Int) + (S.length : Int) < (D.length : Int)) := by omega
                  clear Hzz hp hY
                  rcases (show F = false ∨ (F = true ∧ b = false) from by cases hf : F; exact .inl rfl; exact .inr ⟨rfl, HP1.out hf⟩) with rfl | ⟨rfl, rfl⟩
                  all_goals
                    cases asw
                    · go_wp2_with fail
                      refine Calls.mono HZ.out ?_
                      rintro e w4 ⟨a4, c4, rfl, hc4, h4, h42, hB4⟩
                      have HE : Hid (Calls Try.prog 11 #[.slice a4 D.length c4, .slice a2 D.length c2] w4 fun e w' => e = .returned (.bool true) ∧ ∃ n, w' = w4.drewN n) := eq_true w4 _ _ _ _ _ _ D (by omega) (h4.cut ⟨S, HY.out⟩) h42
                      have HS : Hid (Reads w4 (.slice a4 Y.length c4) Y) := h4
                      have B4 : Hid (Below wr.heap.size wr w4) := hB4
                      have hDc : D.length ≤ c4 := by omega
                      clear h4 h42 hB4 HZ
                      go_wp2_with (go_at_call 11; refine Calls.mono HE.out ?_; rintro e w5 ⟨rfl, N, rfl⟩)
                      go_loopg [16] S.length (fun g x wx => ∃ k : Nat, k + g = S.length ∧ x = .int .i64 ((D.length : Int) + (k : Int)) ∧ wx = w4.drewN N)
                      case atStart => exact ⟨0, by omega, by simp, rfl⟩
                      case round =>
                        obtain ⟨k, hkg, rfl, rfl⟩ := hrel
                        cases gk with
                        | succ g =>
                          have hkS : (k : Int) < (S.length : Int) := by omega
                          have hkY : D.length + k < Y.length := by omega
                          obtain ⟨x, rfl, hx⟩ := HS.out.get hkY
                          have hYk : Y[D.length + k] = S[k]'(by omega) := by
                            have := HY.out
                            subst this
                            rw [List.getElem_append_right (by omega)]
                            simp
                          rw [hYk] at hx
                          have HQ : Hid (∀ w, Calls Try.prog 22 #[.int .u8 ((S[k]'(by omega)).toNat : Nat)] w fun e w' => e = .returned (.bool true) ∧ w' = w) := by
                            intro w
                            rw [← HP2.out (by first | trivial | rfl) (S[k]'(by omega)) (List.getElem_mem _)]
                            exact spByte_any _ w
                          generalize (S[k]'(by omega)).toNat = q at hx HQ
                          clear hYk
                          go_wp2_with (go_at_call 22; refine (HQ.out _).mono ?_; rintro e w' ⟨rfl, rfl⟩)
                          go_roundg g
                          case measure => omega
                          case rel => exact ⟨k + 1, by omega, by first | rfl | simp | (simp; omega), rfl⟩
                        | zero =>
                          obtain rfl : k = S.length := by omega
                          go_wp2
                          go_ret
                          exact ⟨rfl, below_drewN B4.out N⟩
                    · go_wp2_with fail
                      refine Calls.mono HZ.out ?_
                      rintro e w4 ⟨a4, c4, rfl, hc4, h4, h42, hB4⟩
                      have HE : Hid (Calls Try.prog 11 #[.slice a4 D.length c4, .slice a2 D.length c2] w4 fun e w' => e = .returned (.bool true) ∧ ∃ n, w' = w4.drewN n) := eq_true w4 _ _ _ _ _ _ D (by omega) (h4.cut ⟨S, HY.out⟩) h42
                      have B4 : Hid (Below wr.heap.size wr w4) := hB4
                      have hDc : D.length ≤ c4 := by omega
                      clear h4 h42 hB4 HZ
                      go_wp2_with (go_at_call 11; refine Calls.mono HE.out ?_; rintro e w5 ⟨rfl, N, rfl⟩)
                      go_ret
                      exact ⟨rfl, below_drewN B4.out N⟩
      · have e2 : ¬ ((262144 : Int) < (n : Int)) := by omega
        have e3 : ((262144 : Int) < (s.size : Int)) := by omega
        go_enter Try.func6, Try.ntmps6
        go_wp2_with (go_at_call 20; refine (bytesF_ok _ _ _ _ _ _ h1).mono ?_; rintro e w' ⟨rfl, rfl⟩)
        go_ret
        exact ⟨rfl, Below.refl _ _⟩
    · have e2 : ((262144 : Int) < (n : Int)) := by omega
      go_enter Try.func6, Try.ntmps6
      go_wp2_with (go_at_call 20; refine (bytesF_ok _ _ _ _ _ _ h1).mono ?_; rintro e w' ⟨rfl, rfl⟩)
      go_ret
      exact ⟨rfl, Below.refl _ _⟩
  · go_enter Try.func6, Try.ntmps6
    go_wp2_with (go_at_call 20; refine (bytesF_no _ _ _ _ _ _ h1).mono ?_; rintro e w' ⟨rfl, rfl⟩)
    go_ret
    exact ⟨rfl, Below.refl _ _⟩
end Go.Proofs.Qxb6000821a
