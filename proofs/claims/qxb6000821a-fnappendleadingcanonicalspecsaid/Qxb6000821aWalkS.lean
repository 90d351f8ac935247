import Derived.Test.Qxb6000821aLawS
import Derived.Test.Qxb6000821aModel
import Derived.Test.Qxb6000821aPrefix
import Derived.Test.Qxb6000821aWalkF
namespace Go.Proofs.Qxb6000821a
open Go.RowKit

theorem bytesS_ok (a : Option Addr) (n c : Nat) (s : ByteArray) (w : World) (h : n + s.size ≤ 1048576) :
    Calls Try.prog 15 #[.slice a n c, .string s] w fun e w' => e = .returned (.bool true) ∧ w' = w := by
  have e1 : ¬ ((1048576 : Int) < (n : Int)) := by omega
  have e2 : ¬ ((1048576 : Int) < (s.size : Int)) := by omega
  have e3 : ¬ ((1048576 : Int) < (n : Int) + (s.size : Int)) := by omega
  go_enter Try.func15, Try.ntmps15
  go_wp2
  go_ret
  exact ⟨rfl, rfl⟩

theorem bytesS_no (a : Option Addr) (n c : Nat) (s : ByteArray) (w : World) (h : ¬ n + s.size ≤ 1048576) :
    Calls Try.prog 15 #[.slice a n c, .string s] w fun e w' => e = .returned (.bool false) ∧ w' = w := by
  by_cases h1 : 1048576 < n
  · have e1 : ((1048576 : Int) < (n : Int)) := by omega
    go_enter Try.func15, Try.ntmps15
    go_wp2
    go_ret
    exact ⟨rfl, rfl⟩
  · have e1 : ¬ ((1048576 : Int) < (n : Int)) := by omega
    by_cases h2 : 1048576 < s.size
    · have e2 : ((1048576 : Int) < (s.size : Int)) := by omega
      go_enter Try.func15, Try.ntmps15
      go_wp2
      go_ret
      exact ⟨rfl, rfl⟩
    · have e2 : ¬ ((1048576 : Int) < (s.size : Int)) := by omega
      have e3 : ((1048576 : Int) < (n : Int) + (s.size : Int)) := by omega
      go_enter Try.func15, Try.ntmps15
      go_wp2
      go_ret
      exact ⟨rfl, rfl⟩


theorem Reads.later {w w' : World} {v : Value} {D : List UInt8} (h : Reads w v D) (hB : Below w.heap.size w w') : Reads w' v D := by
  rcases h with h | ⟨x, cap, h1, h2, h3, h4⟩
  · exact .inl h
  · exact .inr ⟨x, cap, h1, h2, h3, fun j hj => by rw [hB.cell (block_lt_of_cell (h4 j hj)), h4 j hj]⟩
theorem Reads.tail {w : World} {x : Addr} {n c : Nat} {D W Y : List UInt8} (h : Reads w (.slice (some x) n c) Y) (hY : D ++ W = Y) : Reads w (.slice (some (x.add D.length)) W.length (c - D.length)) W := by
  subst hY
  rcases h with ⟨h1, h2⟩ | ⟨x', cap, h1, h2, h3, h4⟩
  · cases h1
  · cases h1
    simp only [List.length_append] at h2 h4
    refine .inr ⟨_, _, rfl, by omega, by omega, fun j hj => ?_⟩
    have h5 := h4 (D.length + j) (by omega)
    rw [List.getElem_append_right (by omega)] at h5
    simp only [Nat.add_sub_cancel_left] at h5
    rw [Addr.add_add]
    exact h5
theorem Reads.drewN {w : World} {v : Value} {D : List UInt8} (h : Reads w v D) (n : Nat) : Reads (w.drewN n) v D := h

set_option maxHeartbeats 4000000 in
theorem walkS (a : Option Addr) (n c : Nat) (D : List UInt8) (s : ByteArray) (w : World) (hr : Reads w (.slice a n c) D) :
    Calls Try.prog 5 #[.slice a n c, .string s] w fun e w' => e = .returned (.bool true) ∧ Below w.heap.size w w' := by
  by_cases h1 : n + s.size ≤ 1048576
  · by_cases h2 : n ≤ 262144
    · by_cases h3 : s.size ≤ 262144
      · have e2 : ¬ ((262144 : Int) < (n : Int)) := by omega
        have e3 : ¬ ((262144 : Int) < (s.size : Int)) := by omega
        obtain ⟨l, hl⟩ : ∃ l, l = s.data.toList := ⟨_, rfl⟩
        have HL : Hid (l = s.data.toList) := hl
        have hll : l.length = s.size := by rw [hl]; simp
        have HR : Hid (Reads w (.slice a n c) D) := hr
        have HN : Hid (n = D.length) := hr.len
        obtain ⟨P, hP⟩ : ∃ P, parse l (l.length + 1) 0 true true = P := ⟨_, rfl⟩
        have HPC : Hid (∀ w, Calls Try.prog 14 #[.string s] w fun e w' => e = .returned (.tuple #[.bool P.1, .bool P.2.1, .bool P.2.2]) ∧ w' = w) := fun w => parse_any s l w HL.out (by omega) P hP
        obtain ⟨ok, dg, cn'⟩ := P
        simp only at HPC
        clear hl hr
        by_cases hg : ok = true ∧ dg = true ∧ cn' = true
        · obtain ⟨rfl, rfl, rfl⟩ := hg
          have hR := canon_sync l l.length 0 (.inr rfl) (Nat.zero_le _) (by omega) hP
          rw [List.take_zero, show canonM [] = [] from rfl] at hR
          have h255 : ∀ c ∈ l, c ≠ 255 := by
            have := whole_can false l (l.length + 1) 0 [] true (by simp) (by rw [hR])
            intro c hc e
            have h4 := this c hc
            rw [e] at h4
            revert h4
            decide
          have H255 : Hid (∀ c ∈ l, c ≠ 255) := h255
          obtain ⟨W, hW⟩ : ∃ W, canonM l = W := ⟨_, rfl⟩
          have hWl : W.length ≤ s.size := by rw [← hW, ← hll]; exact canonM_len l
          rw [hW] at hR
          have HRR : Hid (lead cch false l (l.length + 1) 0 [] true = (W, true)) := hR
          have HMC : Hid (∀ w, Calls Try.prog 17 #[.string s] w fun e w' => ∃ v', e = .returned v' ∧ Holds w.heap.size w' v' W ∧ Below w.heap.size w w') := fun w => by
            rw [← hW]
            exact model_any s l w HL.out (by omega)
          clear hP hR h255 hW
          go_enter Try.func5, Try.ntmps5
          go_wp2_with (first | (go_at_call 15; refine (bytesS_ok _ _ _ _ _ h1).mono ?_; rintro e w' ⟨rfl, rfl⟩) | (go_at_call 14; refine Calls.mono (HPC.out _) ?_; rintro e w6 ⟨rfl, rfl⟩))
          refine (clone_any _ _ _ _ D (by rw [← HN.out]; omega) HR.out).mono ?_
          rintro e w1 ⟨v1, rfl, hH1, hB1⟩
          obtain ⟨a1, c1, rfl, hc1⟩ := hH1.slice
          have H1 : Hid (Holds w6.heap.size w1 (.slice a1 D.length c1) D) := hH1
          have B1 : Hid (Below w6.heap.size w6 w1) := hB1
          clear hH1 hB1
          go_wp2_with fail
          refine (clone_any _ _ _ _ D (by rw [← HN.out]; omega) H1.out.reads).mono ?_
          rintro e w2 ⟨v2, rfl, hH2, hB2⟩
          obtain ⟨a2, c2, rfl, hc2⟩ := hH2.slice
          have H2 : Hid (Holds w1.heap.size w2 (.slice a2 D.length c2) D) := hH2
          have B2 : Hid (Below w1.heap.size w1 w2) := hB2
          clear hH2 hB2
          go_wp2_with fail
          refine (canon_any _).mono ?_
          rintro e w3 ⟨rfl, hB3⟩
          have B3 : Hid (Below w2.heap.size w2 w3) := hB3
          clear hB3
          have Hzz := after_zz cch false s l D a1 a2 c1 c2 w6 w1 w2 w3 HL.out (by omega) (by rw [← HN.out]; omega) H1.out B1.out H2.out B2.out B3.out H255.out (W, true) HRR.out
          simp only at Hzz
          have hDl : D.length ≤ 262144 := by rw [← HN.out]; omega
          clear HR HN HPC H255 HRR
          cases hp : pre l W with
          | true =>
            rw [hp, hold_yes hp] at Hzz
            have HZ : Hid _ := Hzz
            have HT : Hid (W = l.take W.length) := pre_take hp
            have HPW : Hid (pre l W = true) := hp
            clear Hzz hp
            go_wp2_with fail
            refine Calls.mono HZ.out ?_
            rintro e w4 ⟨a4, c4, rfl, hc4, h4, h42, hB4⟩
            have HS : Hid (Reads w4 (.slice a4 D.length c4) D) := h4
            have HO : Hid (Reads w4 (.slice a2 D.length c2) D) := h42
            have B4 : Hid (Below w6.heap.size w6 w4) := hB4
            clear h4 h42 hB4 HZ
            go_wp2_with fail
            refine Calls.mono (HMC.out _) ?_
            rintro e w5 ⟨v5, rfl, hH5, hB5⟩
            obtain ⟨a5, c5, rfl, hc5⟩ := hH5.slice
            have HE : Hid (Calls Try.prog 11 #[.slice a4 D.length c4, .slice a2 D.length c2] w5 fun e w' => e = .returned (.bool true) ∧ ∃ n, w' = w5.drewN n) := eq_true w5 _ _ _ _ _ _ D (by omega) (HS.out.later hB5) (HO.out.later hB5)
            have HW : Hid (∀ N, Reads (w5.drewN N) (.slice a5 W.length c5) W) := fun N => hH5.reads.drewN N
            have B5 : Hid (Below w6.heap.size w6 w5) := B4.out.trans (below_le hB5 B4.out.size)
            clear hH5 hB5 HS HO
            have HPX : Hid (∀ N, Calls Try.prog 18 #[.string s, .slice a5 W.length c5] (w5.drewN N) fun e w' => e = .returned (.bool true) ∧ ∃ n, w' = (w5.drewN N).drewN n) := fun N => prefix_any s l _ _ _ W _ HL.out (by omega) (HW.out N) true HPW.out
            have HEQ : Hid (∀ N, Calls Try.prog 19 #[.slice a5 W.length c5, .string (s.extract 0 W.length)] (w5.drewN N) fun e w' => e = .returned (.bool true) ∧ ∃ n, w' = (w5.drewN N).drewN n) := fun N => by
              refine eqs_true _ W _ _ _ _ ?_ (by simp; omega) (HW.out N)
              rw [ext_list, ← HL.out, List.drop_zero, Nat.sub_zero]
              exact HT.out
            go_wp2_with (first | (go_at_call 11; refine Calls.mono HE.out ?_; rintro e w7 ⟨rfl, N, rfl⟩) | (go_at_call 18; refine Calls.mono (HPX.out _) ?_; rintro e w8 ⟨rfl, N2, rfl⟩))
            refine Calls.mono (HEQ.out _) ?_
            rintro e w9 ⟨rfl, N3, rfl⟩
            go_wp2
            go_ret
            exact ⟨rfl, below_drewN B5.out _⟩
          | false =>
            rw [hp, hold_no hp] at Hzz
            obtain ⟨Y, hY⟩ : ∃ Y, D ++ W = Y := ⟨_, rfl⟩
            rw [hY] at Hzz
            have hYl : Y.length = D.length + W.length := by rw [← hY]; simp
            have HY : Hid (D ++ W = Y) := hY
            have HZ : Hid _ := Hzz
            have HPW : Hid (pre l W = false) := hp
            have hW0 : 0 < W.length := by
              cases W with
              | nil => rw [pre_nil] at hp; cases hp
              | cons _ _ => simp
            have y1 : ¬ ((D.length : Int) + (W.length : Int) < (D.length : Int)) := by omega
            clear Hzz hp hY
            go_wp2_with fail
            refine Calls.mono HZ.out ?_
            rintro e w4 ⟨a4, c4, rfl, hc4, h4, h42, hB4⟩
            have HS : Hid (Reads w4 (.slice a4 Y.length c4) Y) := h4
            have HO : Hid (Reads w4 (.slice a2 D.length c2) D) := h42
            have B4 : Hid (Below w6.heap.size w6 w4) := hB4
            have hDc : D.length ≤ c4 := by omega
            clear h4 h42 hB4 HZ
            go_wp2_with fail
            refine Calls.mono (HMC.out _) ?_
            rintro e w5 ⟨v5, rfl, hH5, hB5⟩
            obtain ⟨a5, c5, rfl, hc5⟩ := hH5.slice
            have HE : Hid (Calls Try.prog 11 #[.slice a4 D.length c4, .slice a2 D.length c2] w5 fun e w' => e = .returned (.bool true) ∧ ∃ n, w' = w5.drewN n) := eq_true w5 _ _ _ _ _ _ D (by omega) ((HS.out.cut ⟨W, HY.out⟩).later hB5) (HO.out.later hB5)
            have HW : Hid (∀ N, Reads (w5.drewN N) (.slice a5 W.length c5) W) := fun N => hH5.reads.drewN N
            have HS5 : Hid (Reads w5 (.slice a4 Y.length c4) Y) := HS.out.later hB5
            have B5 : Hid (Below w6.heap.size w6 w5) := B4.out.trans (below_le hB5 B4.out.size)
            clear hH5 hB5 HS HO
            have HPX : Hid (∀ N, Calls Try.prog 18 #[.string s, .slice a5 W.length c5] (w5.drewN N) fun e w' => e = .returned (.bool false) ∧ ∃ n, w' = (w5.drewN N).drewN n) := fun N => prefix_any s l _ _ _ W _ HL.out (by omega) (HW.out N) false HPW.out
            go_wp2_with fail
            refine Calls.mono HE.out ?_
            rintro e w7 ⟨rfl, N, rfl⟩
            go_wp2_with fail
            refine Calls.mono (HPX.out _) ?_
            rintro e w8 ⟨rfl, N2, rfl⟩
            obtain ⟨x, rfl, hx0⟩ := HS5.out.get (j := 0) (by omega)
            clear hx0 HE
            go_wp2_with fail
            have HT := HS5.out.tail HY.out
            refine Calls.mono (eq_true (w5.drewN (N + N2)) _ _ _ _ _ _ W (by omega) (HT.drewN _) (HW.out _)) ?_
            rintro e w9 ⟨rfl, N3, rfl⟩
            go_wp2
            go_ret
            exact ⟨rfl, below_drewN B5.out _⟩
        · go_enter Try.func5, Try.ntmps5
          cases ok
          · go_wp2_with (first | (go_at_call 15; refine (bytesS_ok _ _ _ _ _ h1).mono ?_; rintro e w' ⟨rfl, rfl⟩) | (go_at_call 14; refine Calls.mono (HPC.out _) ?_; rintro e w6 ⟨rfl, rfl⟩))
            go_ret
            exact ⟨rfl, Below.refl _ _⟩
          · cases dg
            · go_wp2_with (first | (go_at_call 15; refine (bytesS_ok _ _ _ _ _ h1).mono ?_; rintro e w' ⟨rfl, rfl⟩) | (go_at_call 14; refine Calls.mono (HPC.out _) ?_; rintro e w6 ⟨rfl, rfl⟩))
              go_ret
              exact ⟨rfl, Below.refl _ _⟩
            · cases cn'
              · go_wp2_with (first | (go_at_call 15; refine (bytesS_ok _ _ _ _ _ h1).mono ?_; rintro e w' ⟨rfl, rfl⟩) | (go_at_call 14; refine Calls.mono (HPC.out _) ?_; rintro e w6 ⟨rfl, rfl⟩))
                go_ret
                exact ⟨rfl, Below.refl _ _⟩
              · exact absurd ⟨rfl, rfl, rfl⟩ hg
      · have e2 : ¬ ((262144 : Int) < (n : Int)) := by omega
        have e3 : ((262144 : Int) < (s.size : Int)) := by omega
        go_enter Try.func5, Try.ntmps5
        go_wp2_with (go_at_call 15; refine (bytesS_ok _ _ _ _ _ h1).mono ?_; rintro e w' ⟨rfl, rfl⟩)
        go_ret
        exact ⟨rfl, Below.refl _ _⟩
    · have e2 : ((262144 : Int) < (n : Int)) := by omega
      go_enter Try.func5, Try.ntmps5
      go_wp2_with (go_at_call 15; refine (bytesS_ok _ _ _ _ _ h1).mono ?_; rintro e w' ⟨rfl, rfl⟩)
      go_ret
      exact ⟨rfl, Below.refl _ _⟩
  · go_enter Try.func5, Try.ntmps5
    go_wp2_with (go_at_call 15; refine (bytesS_no _ _ _ _ _ h1).mono ?_; rintro e w' ⟨rfl, rfl⟩)
    go_ret
    exact ⟨rfl, Below.refl _ _⟩
end Go.Proofs.Qxb6000821a
