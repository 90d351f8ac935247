import Derived.Test.Qxb6000821aLawS
import Derived.Test.Qxb6000821aRead
namespace Go.Proofs.Qxb6000821a
open Go.RowKit

theorem make_runs (w : World) (n : Nat) (hn : n ≤ 1048576) :
    ∃ w1, (Instr.makeSlice 23 (.int .i64 0) (.int .i64 (n : Int))).run Try.prog w = .ok (.slice (some ⟨w.heap.size, 0, none⟩) 0 n) w1 ∧ Holds w.heap.size w1 (.slice (some ⟨w.heap.size, 0, none⟩) 0 n) [] ∧ Below w.heap.size w w1 := by
  obtain ⟨i, hi, hz0, hz1, hz2⟩ := info_parts info5
  have hmk := run_make (P := Try.prog) w 23 5 i (.int .u8 0) Try.underlying23 hi hz0 .i64 .i64 0 n (by omega) (by omega) (by rw [hz2]; omega) (by omega)
  simp only [Int.toNat_natCast, hz1, Nat.mul_one] at hmk
  obtain ⟨cur, hcur⟩ : ∃ cur, cur = madeCells (Value.int .u8 0).cells n := ⟨_, rfl⟩
  have hsz : cur.size = n := by rw [hcur]; exact size_madeCells _ _
  rw [← hcur] at hmk
  refine ⟨_, hmk, ⟨by simp [Lib.byteCells], .inr ⟨w.heap.size, n, cur, rfl, Nat.le_refl _, ?_, Nat.zero_le _, by simp [maxLen]; omega, by simp [hsz], by simp [Lib.byteCells]⟩⟩, (Below.refl _ _).alloc (Nat.le_refl _) _⟩
  show (w.heap.push _)[w.heap.size]? = _
  simp

set_option maxHeartbeats 4000000 in
theorem model_any (s : ByteArray) (l : List UInt8) (w : World) (hl : l = s.data.toList) (hs : s.size ≤ 1048576) :
    Calls Try.prog 17 #[.string s] w fun e w' => ∃ v', e = .returned v' ∧ Holds w.heap.size w' v' (canonM l) ∧ Below w.heap.size w w' := by
  obtain ⟨w1, hmk, hH, hB⟩ := make_runs w s.size hs
  have HH : Hid (Holds w.heap.size w1 (.slice (some ⟨w.heap.size, 0, none⟩) 0 s.size) []) := hH
  have HB : Hid (Below w.heap.size w w1) := hB
  have HL : Hid (l = s.data.toList) := hl
  have hll : l.length = s.size := by rw [hl]; simp
  clear hH hB hl
  obtain ⟨i0, hi, hz0, hz1, hz2⟩ := info_parts info5
  go_enter Try.func17, Try.ntmps17
  go_wp2
  go_loopg [3, 4] s.size (fun g x y wx => ∃ (k : Nat) (v : Value), k + g = s.size ∧ x = v ∧ y = .int .i64 k ∧ Holds w.heap.size wx v (canonM (l.take k)) ∧ Below w.heap.size w wx)
  case atStart => exact ⟨0, _, by omega, rfl, rfl, HH.out, HB.out⟩
  case round =>
    obtain ⟨k, v, hkg, rfl, rfl, h1, h2⟩ := hrel
    have H1 : Hid (Holds w.heap.size wr _ (canonM (l.take k))) := h1
    have H2 : Hid (Below w.heap.size w wr) := h2
    have hXl : (canonM (l.take k)).length ≤ 1048576 := by
      have := canonM_len (l.take k)
      rw [List.length_take] at this
      omega
    have hBz : w.heap.size ≤ wr.heap.size := h2.size
    clear h1 h2 HH HB hmk
    cases gk with
    | succ g =>
      have hk : k < s.size := by omega
      have hkz : (k : Int) < (s.size : Int) := by omega
      have HS : Hid (canonM (l.take (k + 1)) = canonM (l.take k) ++ canM s[k]) := by
        have h0 := name_at HL.out k hk
        rw [List.getElem?_eq_getElem (by omega)] at h0
        show _ = _
        rw [take_snoc l k (by omega), canonM_append, Option.some.inj h0]
        simp [canonM]
      obtain ⟨X, hX⟩ : ∃ X, canonM (l.take k) = X := ⟨_, rfl⟩
      rw [hX] at H1 HS hXl
      clear hX
      by_cases hu : 65 ≤ s[k].toNat ∧ s[k].toNat ≤ 90
      · obtain ⟨q, hq⟩ : ∃ q, UInt8.ofNat (s[k].toNat + 32) = q := ⟨_, rfl⟩
        have HM : Hid (canonM (l.take (k + 1)) = X ++ [q]) := by
          show _ = _
          rw [HS.out, ← hq]
          unfold canM
          rw [if_pos hu]
        have c3 : (65 : Int) ≤ (s[k].toNat : Int) := by omega
        have c4 : (s[k].toNat : Int) ≤ 90 := by omega
        have cq : (s[k].toNat : Int) - 65 + 97 = (q.toNat : Int) := by
          rw [← hq, UInt8.toNat_ofNat_of_lt' (by show _ < 256; omega)]
          omega
        clear hq hu HS
        go_wp2_with (at_builtin; refine wpList_byte rfl _ _ 23 rfl w.heap.size i0 Try.underlying23 hi hz0 hz1 hz2 _ X H1.out q (by omega) hBz rfl rfl ?_)
        intro g' m' cap' w' h3 h4
        go_wp2
        go_roundg g
        case measure => omega
        case rel =>
          refine ⟨k + 1, _, by omega, rfl, by first | rfl | simp, by rw [HM.out]; exact h3.out, ?_⟩
          exact H2.out.trans (h4.out.below hBz fun gg hg => (H1.out.base gg hg).1)
      · by_cases hd : s[k].toNat = 45
        · have HM : Hid (canonM (l.take (k + 1)) = X) := by
            show _ = _
            rw [HS.out]
            unfold canM
            rw [if_neg hu, if_pos hd]
            simp
          have c5 : ((s[k].toNat : Int) == 45) = true := by rw [hd]; rfl
          have c3 : ¬ (65 : Int) ≤ (s[k].toNat : Int) := by omega
          clear hu hd HS
          go_wp2
          go_roundg g
          case measure => omega
          case rel => exact ⟨k + 1, _, by omega, rfl, by first | rfl | simp, by rw [HM.out]; exact H1.out, H2.out⟩
        · have HM : Hid (canonM (l.take (k + 1)) = X ++ [s[k]]) := by
            show _ = _
            rw [HS.out]
            unfold canM
            rw [if_neg hu, if_neg hd]
          have c5 : ((s[k].toNat : Int) == 45) = false := by rw [beq_eq_false_iff_ne]; omega
          by_cases h65 : 65 ≤ s[k].toNat
          · have c3 : (65 : Int) ≤ (s[k].toNat : Int) := by omega
            have c4 : ¬ (s[k].toNat : Int) ≤ 90 := by omega
            clear hu hd HS
            go_wp2_with (at_builtin; refine wpList_byte rfl _ _ 23 rfl w.heap.size i0 Try.underlying23 hi hz0 hz1 hz2 _ X H1.out s[k] (by omega) hBz rfl rfl ?_)
            intro g' m' cap' w' h3 h4
            go_wp2
            go_roundg g
            case measure => omega
            case rel =>
              refine ⟨k + 1, _, by omega, rfl, by first | rfl | simp, by rw [HM.out]; exact h3.out, ?_⟩
              exact H2.out.trans (h4.out.below hBz fun gg hg => (H1.out.base gg hg).1)
          · have c3 : ¬ (65 : Int) ≤ (s[k].toNat : Int) := by omega
            clear hu hd HS
            go_wp2_with (at_builtin; refine wpList_byte rfl _ _ 23 rfl w.heap.size i0 Try.underlying23 hi hz0 hz1 hz2 _ X H1.out s[k] (by omega) hBz rfl rfl ?_)
            intro g' m' cap' w' h3 h4
            go_wp2
            go_roundg g
            case measure => omega
            case rel =>
              refine ⟨k + 1, _, by omega, rfl, by first | rfl | simp, by rw [HM.out]; exact h3.out, ?_⟩
              exact H2.out.trans (h4.out.below hBz fun gg hg => (H1.out.base gg hg).1)
    | zero =>
      obtain rfl : k = s.size := by omega
      rw [List.take_of_length_le (by omega)] at H1
      go_wp2
      refine bodyPost_ret (v := _) (by simp [results, Try.results17, go_sem]) rfl ⟨_, rfl, H1.out, H2.out⟩
end Go.Proofs.Qxb6000821a
