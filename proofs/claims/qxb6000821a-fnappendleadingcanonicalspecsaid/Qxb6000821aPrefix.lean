import Derived.Test.Qxb6000821aRead
namespace Go.Proofs.Qxb6000821a
open Go.RowKit

theorem u8_ne' {c d : UInt8} (h : c ≠ d) : (c.toNat : Int) ≠ (d.toNat : Int) := fun e => h (UInt8.toNat_inj.1 (by omega))

set_option maxHeartbeats 2000000 in
theorem prefix_any (s : ByteArray) (l : List UInt8) (a : Option Addr) (n c : Nat) (W : List UInt8) (w : World) (hl : l = s.data.toList) (hs : s.size ≤ 1048576) (hr : Reads w (.slice a n c) W) (r : Bool) (hrr : pre l W = r) :
    Calls Try.prog 18 #[.string s, .slice a n c] w fun e w' => e = .returned (.bool r) ∧ ∃ n, w' = w.drewN n := by
  obtain rfl := hr.len
  have hll : l.length = s.size := by rw [hl]; simp
  have HL : Hid (l = s.data.toList) := hl
  have HR : Hid (Reads w (.slice a W.length c) W) := hr
  clear hl hr
  by_cases hlen : s.size < W.length
  · have e1 : (s.size : Int) < (W.length : Int) := by omega
    have HF : Hid (r = false) := by
      cases hp : pre l W with
      | false => rw [← hrr, hp]; exact rfl
      | true => have := pre_le hp; omega
    clear hrr
    go_enter Try.func18, Try.ntmps18
    go_wp2
    go_ret
    exact ⟨by rw [HF.out]; rfl, 0, rfl⟩
  · have e1 : ¬ (s.size : Int) < (W.length : Int) := by omega
    have HRR : Hid (pre l W = r) := hrr
    clear hrr
    go_enter Try.func18, Try.ntmps18
    go_wp2
    go_loopg [5] W.length (fun g x wx => ∃ k N : Nat, k + g = W.length ∧ x = .int .i64 k ∧ pre l (W.take k) = true ∧ wx = w.drewN N)
    case atStart => exact ⟨0, 0, by omega, rfl, by simp [pre_nil], rfl⟩
    case round =>
      obtain ⟨k, N, hkg, rfl, hpk, rfl⟩ := hrel
      have HK : Hid (pre l (W.take k) = true) := hpk
      clear hpk
      cases gk with
      | zero =>
        obtain rfl : k = W.length := by omega
        have HF : Hid (r = true) := by
          have := HK.out
          rw [List.take_length, HRR.out] at this
          exact this
        go_wp2
        go_ret
        exact ⟨by rw [HF.out]; rfl, N, rfl⟩
      | succ g =>
        have hk : k < W.length := by omega
        have hkz : (k : Int) < (W.length : Int) := by omega
        have hks : k < s.size := by omega
        have hksz : (k : Int) < (s.size : Int) := by omega
        obtain ⟨x, rfl, hx⟩ := HR.out.get hk
        have h0' := name_at HL.out k hks
        by_cases he : s[k] = W[k]
        · have HN : Hid (pre l (W.take (k + 1)) = true) := by
            show _ = _
            rw [take_snoc W k hk]
            refine pre_snoc HK.out ?_
            rw [List.length_take, Nat.min_eq_left (by omega), h0', he]
          rw [← he] at hx
          clear h0' he
          go_wp2
          go_quiet (fail)
          go_wp2
          go_roundg g
          case measure => omega
          case rel => exact ⟨k + 1, _, by omega, by first | rfl | simp, HN.out, rfl⟩
        · have HN : Hid (r = false) := by
            show _ = _
            rw [← HRR.out]
            cases hp : pre l W with
            | false => rfl
            | true =>
              have := pre_get hp hk
              rw [h0', List.getElem?_eq_getElem hk] at this
              exact absurd (Option.some.inj this) he
          have hne : ((s[k].toNat : Int) != (W[k].toNat : Int)) = true := by rw [bne_iff_ne]; exact u8_ne' he
          generalize W[k].toNat = q at hx hne
          clear h0' he
          go_wp2
          go_quiet (fail)
          go_wp2
          go_ret
          exact ⟨by rw [HN.out]; rfl, _, World.drewN_drewN _ _ _⟩

set_option maxHeartbeats 2000000 in
theorem eqs_true (s : ByteArray) (W : List UInt8) (a : Option Addr) (n c : Nat) (w : World) (hl : W = s.data.toList) (hs : s.size ≤ 1048576) (hr : Reads w (.slice a n c) W) :
    Calls Try.prog 19 #[.slice a n c, .string s] w fun e w' => e = .returned (.bool true) ∧ ∃ n, w' = w.drewN n := by
  obtain rfl := hr.len
  have hll : W.length = s.size := by rw [hl]; simp
  have HL : Hid (W = s.data.toList) := hl
  have HR : Hid (Reads w (.slice a W.length c) W) := hr
  rw [hll]
  rw [hll] at HR
  clear hl hr
  go_enter Try.func19, Try.ntmps19
  go_wp2
  go_loopg [5] s.size (fun g x wx => ∃ k N : Nat, k + g = s.size ∧ x = .int .i64 k ∧ wx = w.drewN N)
  case atStart => exact ⟨0, 0, by omega, rfl, rfl⟩
  case round =>
    obtain ⟨k, N, hkg, rfl, rfl⟩ := hrel
    cases gk with
    | zero =>
      obtain rfl : k = s.size := by omega
      go_wp2
      go_ret
      exact ⟨rfl, N, rfl⟩
    | succ g =>
      have hk : k < s.size := by omega
      have hkz : (k : Int) < (s.size : Int) := by omega
      obtain ⟨x, rfl, hx⟩ := HR.out.get (j := k) (by omega)
      have h0' := name_at HL.out k hk
      rw [List.getElem?_eq_getElem (by omega)] at h0'
      rw [Option.some.inj h0'] at hx
      clear h0'
      go_wp2
      go_quiet (fail)
      go_wp2
      go_roundg g
      case measure => omega
      case rel => exact ⟨k + 1, _, by omega, by first | rfl | simp, rfl⟩
end Go.Proofs.Qxb6000821a
