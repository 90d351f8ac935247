import Derived.Test.Qxb6000821aRows
import Derived.Test.Qxb6000821aPlain
import Derived.Test.Qxb6000821aFrame
import Derived.WalkKit
import Derived.WalkSpells
import Derived.WalkLawsBesides
import Derived.Lib.Walk
namespace Go.Proofs.Qxb6000821a
open Go.RowKit

theorem info5 : (Try.prog.info? 5).map (fun i => (i.zero, i.size, i.bytes)) = some (some (.int .u8 0), 1, 1) := by kernel_rfl

theorem name_at {nm : ByteArray} {l : List UInt8} (hl : l = nm.data.toList) (k : Nat) (hk : k < nm.size) : l[k]? = some nm[k] := by
  subst hl
  rw [List.getElem?_eq_getElem (by simpa using hk)]; rfl

set_option maxHeartbeats 400000 in
theorem byte_match (v : Value) (nm : ByteArray) (k : Nat) (w : World) (hn : nm.size ≤ 1048576) (hlt : k < nm.size) :
    Calls Try.prog 32 #[v, .int .i64 (k : Int), .string nm, .int .u8 (nm[k].toNat : Int)] w fun e w' => e = .returned (.tuple #[v, .int .i64 ((k : Int) + 1)]) ∧ w' = w := by
  have t1 : ((nm[k].toNat : Int) == (nm[k].toNat : Int)) = true := by simp
  go_enter Try.func32, Try.ntmps32
  go_wp2
  go_ret2
  exact ⟨rfl, rfl⟩

set_option maxHeartbeats 400000 in
theorem byte_off (B : Nat) (v : Value) (X : List UInt8) (nm : ByteArray) (c : UInt8) (w : World) (hX : X.length ≤ 33554432) (hB : B ≤ w.heap.size) (hv : Holds B w v X) :
    Calls Try.prog 32 #[v, .int .i64 (-1), .string nm, .int .u8 (c.toNat : Int)] w fun e w' => ∃ v', e = .returned (.tuple #[v', .int .i64 (-1)]) ∧ Holds B w' v' (X ++ [c]) ∧ Step w v w' v' := by
  obtain ⟨i0, hi, hz0, hz1, hz2⟩ := info_parts info5
  go_enter Try.func32, Try.ntmps32
  go_wp2_with (at_builtin; refine wpList_byte rfl _ _ 23 rfl B i0 Try.underlying23 hi hz0 hz1 hz2 v X hv c (by omega) hB rfl rfl ?_)
  intro g m cap w' h1 h2
  go_wp2
  go_ret2
  exact ⟨_, rfl, h1.out, h2.out⟩

set_option maxHeartbeats 400000 in
theorem byte_part (B : Nat) (v : Value) (X : List UInt8) (nm : ByteArray) (k : Nat) (c : UInt8) (w : World) (hn : nm.size ≤ 1048576) (hk : k ≤ nm.size) (hne : ∀ h : k < nm.size, nm[k] ≠ c)
    (hX : X.length ≤ 1048576) (hB : B ≤ w.heap.size) (hv : Holds B w v X) :
    Calls Try.prog 32 #[v, .int .i64 (k : Int), .string nm, .int .u8 (c.toNat : Int)] w fun e w' => ∃ v', e = .returned (.tuple #[v', .int .i64 (-1)]) ∧ Holds B w' v' (X ++ (nm.data.toList.take k ++ [c])) ∧ Step w v w' v' := by
  obtain ⟨i0, hi, hz0, hz1, hz2⟩ := info_parts info5
  have hsz : (nm.extract 0 k).size = k := by simp; omega
  have hex : (nm.extract 0 k).data.toList = nm.data.toList.take k := by simp [ByteArray.data_extract]
  generalize hT : nm.data.toList.take k = T at hex ⊢
  have hTl : T.length ≤ k := by rw [← hT]; exact List.length_take_le _ _
  have HEX : Hid ((nm.extract 0 k).data.toList = T) := hex
  clear hT hex
  by_cases hlt : k < nm.size
  · have t1 : ((nm[k].toNat : Int) == (c.toNat : Int)) = false := by
      rw [beq_eq_false_iff_ne]
      intro e
      exact hne hlt (UInt8.toNat_inj.1 (by omega))
    clear hne
    go_enter Try.func32, Try.ntmps32
    go_wp2_with (at_builtin; refine wpList_str rfl _ _ 23 9 rfl B i0 Try.underlying23 Try.underlying9 hi hz0 hz1 hz2 v X hv (nm.extract 0 k) (by rw [hsz]; omega) hB rfl rfl T HEX.out ?_)
    intro v1 w1 h1 h2
    have hB1 : B ≤ w1.heap.size := Nat.le_trans hB h2.out.size
    go_wp2_with (at_builtin; refine wpList_byte rfl _ _ 23 rfl B i0 Try.underlying23 hi hz0 hz1 hz2 v1 (X ++ T) h1.out c (by simp; omega) hB1 rfl rfl ?_)
    intro g m cap w' h3 h4
    go_wp2
    go_ret2
    exact ⟨_, rfl, h3.out, h2.out.trans h4.out⟩
  · clear hne
    go_enter Try.func32, Try.ntmps32
    go_wp2_with (at_builtin; refine wpList_str rfl _ _ 23 9 rfl B i0 Try.underlying23 Try.underlying9 hi hz0 hz1 hz2 v X hv (nm.extract 0 k) (by rw [hsz]; omega) hB rfl rfl T HEX.out ?_)
    intro v1 w1 h1 h2
    have hB1 : B ≤ w1.heap.size := Nat.le_trans hB h2.out.size
    go_wp2_with (at_builtin; refine wpList_byte rfl _ _ 23 rfl B i0 Try.underlying23 hi hz0 hz1 hz2 v1 (X ++ T) h1.out c (by simp; omega) hB1 rfl rfl ?_)
    intro g m cap w' h3 h4
    go_wp2
    go_ret2
    exact ⟨_, rfl, h3.out, h2.out.trans h4.out⟩

theorem byte_any (B : Nat) (D l S : List UInt8) (v : Value) (nm : ByteArray) (c : UInt8) (w : World) (hl : l = nm.data.toList) (hn : nm.size ≤ 1048576) (hD : D.length ≤ 1048576) (hS : S.length ≤ 16777216)
    (hB : B ≤ w.heap.size) (hv : Holds B w v (hold D l S)) :
    Calls Try.prog 32 #[v, .int .i64 (atOf l S), .string nm, .int .u8 (c.toNat : Int)] w
      fun e w' => ∃ v', e = .returned (.tuple #[v', .int .i64 (atOf l (S ++ [c]))]) ∧ Holds B w' v' (hold D l (S ++ [c])) ∧ Step w v w' v' := by
  have hll : l.length = nm.size := by rw [hl]; simp
  cases hp : pre l S with
  | false =>
    rw [hold_no hp] at hv
    rw [atOf_no hp, atOf_no (pre_left_no [c] hp), hold_no (pre_left_no [c] hp), ← List.append_assoc]
    exact byte_off B v (D ++ S) nm c w (by simp; omega) hB hv
  | true =>
    rw [hold_yes hp] at hv
    have hle := pre_le hp
    have htk := pre_take hp
    rw [atOf_yes hp]
    by_cases hc : l[S.length]? = some c
    · have hps := pre_snoc hp hc
      rw [atOf_yes hps, hold_yes hps]
      have hlt : S.length < nm.size := by
        have := (List.getElem?_eq_some_iff.1 hc).1
        omega
      have hcc : nm[S.length] = c := by
        rw [name_at hl _ hlt] at hc
        exact Option.some.inj hc
      subst hcc
      refine (byte_match v nm S.length w hn hlt).mono ?_
      rintro e w' ⟨rfl, rfl⟩
      exact ⟨v, by simp, hv, Step.refl _ _⟩
    · have hps := pre_snoc_no hc
      rw [atOf_no hps, hold_no hps]
      have hne : ∀ h : S.length < nm.size, nm[S.length] ≠ c := fun h e => hc (by rw [name_at hl _ h, e])
      have h := byte_part B v D nm S.length c w hn (by omega) hne hD hB hv
      rw [← hl, ← htk] at h
      exact h

theorem take_snoc (l : List UInt8) (k : Nat) (h : k < l.length) : l.take (k + 1) = l.take k ++ [l[k]] := by
  rw [List.take_succ_eq_append_getElem h]

set_option maxHeartbeats 400000 in
theorem string_any (B : Nat) (D l S : List UInt8) (v : Value) (nm s : ByteArray) (t : List UInt8) (w : World) (hl : l = nm.data.toList) (ht : t = s.data.toList) (hn : nm.size ≤ 1048576) (hD : D.length ≤ 1048576) (hS : S.length + t.length ≤ 16777216)
    (hB : B ≤ w.heap.size) (hv : Holds B w v (hold D l S)) :
    Calls Try.prog 29 #[v, .int .i64 (atOf l S), .string nm, .string s] w
      fun e w' => ∃ v', e = .returned (.tuple #[v', .int .i64 (atOf l (S ++ t))]) ∧ Holds B w' v' (hold D l (S ++ t)) ∧ Step w v w' v' := by
  have htl : t.length = s.size := by rw [ht]; simp
  have HT : Hid (t = s.data.toList) := ht
  have HL : Hid (l = nm.data.toList) := hl
  have HV : Hid (Holds B w v (hold D l S)) := hv
  clear ht hl hv
  go_enter Try.func29, Try.ntmps29
  go_wp2
  go_loopw [0, 1, 10] (fun dv at_ i wr => ∃ k : Nat, k ≤ t.length ∧ i = .int .i64 k ∧ at_ = .int .i64 (atOf l (S ++ t.take k)) ∧ Holds B wr dv (hold D l (S ++ t.take k)) ∧ Step w v wr dv) (fun _ _ i _ => t.length - (intOf i).toNat)
  case atStart => exact ⟨0, Nat.zero_le _, rfl, by simp, by simpa using HV.out, Step.refl _ _⟩
  case round =>
    obtain ⟨k, hk, rfl, rfl, hv1, hst⟩ := hrel
    have HV1 : Hid (Holds B wr u0 (hold D l (S ++ t.take k))) := hv1
    have HST : Hid (Step w v wr u0) := hst
    have hBr : B ≤ wr.heap.size := Nat.le_trans hB hst.size
    clear hv1 hst
    by_cases hlt : k < t.length
    · have hks : k < s.size := by omega
      have htk : t[k] = s[k] := by
        have h0 := name_at HT.out k hks
        rw [List.getElem?_eq_getElem hlt] at h0
        exact Option.some.inj h0
      have e1 : S ++ t.take k ++ [s[k]] = S ++ t.take (k + 1) := by rw [take_snoc t k hlt, htk, List.append_assoc]
      have hb := byte_any B D l (S ++ t.take k) u0 nm s[k] wr HL.out hn hD (by simp; omega) hBr HV1.out
      rw [e1] at hb
      have HBY : Hid (Calls Try.prog 32 #[u0, .int .i64 (atOf l (S ++ t.take k)), .string nm, .int .u8 (s[k].toNat : Int)] wr
        fun e w' => ∃ v', e = .returned (.tuple #[v', .int .i64 (atOf l (S ++ t.take (k + 1)))]) ∧ Holds B w' v' (hold D l (S ++ t.take (k + 1))) ∧ Step wr u0 w' v') := hb
      clear htk e1 hb
      go_wp2_with fail
      refine HBY.out.mono ?_
      rintro e w1 ⟨v1, rfl, h1, h2⟩
      have H1 : Hid (Holds B w1 v1 (hold D l (S ++ t.take (k + 1)))) := h1
      have H2 : Hid (Step w v w1 v1) := HST.out.trans h2
      clear h1 h2
      go_wp2
      exact ⟨⟨k + 1, by omega, by go_num, rfl, H1.out, H2.out⟩, by simp [intOf]; omega⟩
    · have E1 : Hid (S ++ t.take k = S ++ t) := by show _ = _; rw [List.take_of_length_le (by omega)]
      have hge : ¬ k < s.size := by omega
      go_wp2
      go_ret2
      refine ⟨u0, by rw [← E1.out]; rfl, ?_, HST.out⟩
      have := HV1.out
      rw [E1.out] at this
      exact this

/-- A non-empty run of digits. -/
def digs (t : List UInt8) : Bool := !t.isEmpty && t.all fun c => decide (48 ≤ c.toNat) && decide (c.toNat ≤ 57)

theorem digs_no {t : List UInt8} {k : Nat} (hk : k < t.length) (h : ¬ (48 ≤ t[k].toNat ∧ t[k].toNat ≤ 57)) : digs t = false := by
  cases hd : digs t with
  | false => rfl
  | true =>
    unfold digs at hd
    simp only [Bool.and_eq_true, List.all_eq_true, decide_eq_true_eq] at hd
    exact absurd (hd.2 t[k] (List.getElem_mem hk)) h

set_option maxHeartbeats 400000 in
theorem digits_any (s : ByteArray) (t : List UInt8) (w : World) (ht : t = s.data.toList) (hs : s.size ≤ 1048576) :
    Calls Try.prog 33 #[.string s] w fun e w' => e = .returned (.bool (digs t)) ∧ w' = w := by
  have htl : t.length = s.size := by rw [ht]; simp
  have HT : Hid (t = s.data.toList) := ht
  clear ht
  by_cases h0 : s.size = 0
  · have hs0 : s = ⟨#[]⟩ := by
      apply ByteArray.ext
      exact Array.eq_empty_of_size_eq_zero h0
    have hd : digs t = false := by
      have : t = [] := List.eq_nil_of_length_eq_zero (by omega)
      subst this; rfl
    rw [hd]
    subst hs0
    clear HT htl hd h0 hs
    go_enter Try.func33, Try.ntmps33
    go_wp2
    go_ret
    exact ⟨rfl, rfl⟩
  · have hne : (s.toList == ([] : List UInt8)) = false := by
      rw [beq_eq_false_iff_ne]
      intro e
      have h1 : s.toList.length = 0 := by rw [e]; rfl
      rw [ByteArray.toList_eq] at h1
      simp at h1
      exact h0 (by rw [h1]; rfl)
    go_enter Try.func33, Try.ntmps33
    go_wp2
    go_loop [3] (fun i => ∃ k : Nat, k ≤ t.length ∧ i = .int .i64 k ∧ (t.take k).all (fun c => decide (48 ≤ c.toNat) && decide (c.toNat ≤ 57)) = true) (fun i => t.length - (intOf i).toNat)
    case atStart => exact ⟨0, Nat.zero_le _, rfl, by simp⟩
    case round =>
      obtain ⟨k, hk, rfl, hall⟩ := hrel
      have HA : Hid ((t.take k).all (fun c => decide (48 ≤ c.toNat) && decide (c.toNat ≤ 57)) = true) := hall
      clear hall
      by_cases hlt : k < t.length
      · have hks : k < s.size := by omega
        have htk : t[k] = s[k] := by
          have h0 := name_at HT.out k hks
          rw [List.getElem?_eq_getElem hlt] at h0
          exact Option.some.inj h0
        have HTK : Hid (t[k] = s[k]) := htk
        clear htk
        by_cases hlo : (s[k].toNat : Int) < 48
        · have HD : Hid (digs t = false) := digs_no hlt (by rw [HTK.out]; omega)
          go_wp2
          go_ret
          exact ⟨by rw [HD.out]; rfl, rfl⟩
        · by_cases hhi : 57 < (s[k].toNat : Int)
          · have HD : Hid (digs t = false) := digs_no hlt (by rw [HTK.out]; omega)
            go_wp2
            go_ret
            exact ⟨by rw [HD.out]; rfl, rfl⟩
          · have HD : Hid ((t.take (k + 1)).all (fun c => decide (48 ≤ c.toNat) && decide (c.toNat ≤ 57)) = true) := by
              show _ = _
              rw [take_snoc t k hlt, List.all_append, HA.out, HTK.out]
              simp; omega
            go_wp2
            exact ⟨⟨k + 1, by omega, by go_num, HD.out⟩, by simp [intOf]; omega⟩
      · have HD : Hid (digs t = true) := by
          have h := HA.out
          rw [List.take_of_length_le (by omega)] at h
          show digs t = true
          have h2 : t.isEmpty = false := by cases t with
            | nil => simp at htl; omega
            | cons _ _ => rfl
          simp only [digs, h, h2, Bool.not_false, Bool.and_self]
        have hge : ¬ k < s.size := by omega
        go_wp2
        go_ret
        exact ⟨by rw [HD.out]; rfl, rfl⟩
end Go.Proofs.Qxb6000821a
