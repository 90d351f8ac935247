import Derived.Test.Qxb6000674aRows
import Derived.Test.Qxb6000674aPlain
import Derived.WalkKit
import Derived.WalkSpells
import Derived.WalkLawsBesides
import Derived.Lib.Builder
import Derived.Lib.UnsafeStr
namespace Go.Proofs.Qxb6000674a
open Go.RowKit

theorem info5d : (Try.prog.info? 5).map (fun i => (i.zero, i.size, i.bytes)) = some (some (.int .u8 0), 1, 1) := by kernel_rfl

theorem hexD_lo {n : Nat} (h : n < 10) : ((hexD n).toNat : Int) = 48 + n := by
  have : ∀ n : Fin 10, ((hexD n.val).toNat : Int) = 48 + n.val := by decide +kernel
  exact this ⟨n, h⟩
theorem hexD_hi {n : Nat} (h : 10 ≤ n) (h2 : n < 16) : ((hexD n).toNat : Int) = 55 + n := by
  have : ∀ n : Fin 6, ((hexD (10 + n.val)).toNat : Int) = 55 + (10 + n.val) := by decide +kernel
  have := this ⟨n - 10, by omega⟩
  simp only [show 10 + (n - 10) = n by omega] at this
  rw [this]; omega

set_option maxHeartbeats 400000 in
theorem hexval_lo (x : Int) (h0 : 48 ≤ x) (h1 : x ≤ 57) (w : World) :
    Calls Try.prog 33 #[.int .u8 x] w fun e w' => e = .returned (.int .i64 (x - 48)) ∧ w' = w := by
  go_enter Try.func33, Try.ntmps33
  go_wp2
  go_ret
  refine ⟨?_, rfl⟩
  go_num
set_option maxHeartbeats 400000 in
theorem hexval_hi (x : Int) (h0 : 65 ≤ x) (h1 : x ≤ 70) (w : World) :
    Calls Try.prog 33 #[.int .u8 x] w fun e w' => e = .returned (.int .i64 (x - 55)) ∧ w' = w := by
  go_enter Try.func33, Try.ntmps33
  go_wp2
  go_ret
  refine ⟨?_, rfl⟩
  go_num
theorem hexval_any (n : Nat) (h : n < 16) (w : World) :
    Calls Try.prog 33 #[.int .u8 ((hexD n).toNat : Int)] w fun e w' => e = .returned (.int .i64 n) ∧ w' = w := by
  by_cases h10 : n < 10
  · have e := hexD_lo h10
    refine (hexval_lo ((hexD n).toNat : Int) (by omega) (by omega) w).mono ?_
    rintro e' w' ⟨rfl, rfl⟩
    exact ⟨by rw [e]; go_num, rfl⟩
  · have e := hexD_hi (by omega) h
    refine (hexval_hi ((hexD n).toNat : Int) (by omega) (by omega) w).mono ?_
    rintro e' w' ⟨rfl, rfl⟩
    exact ⟨by rw [e]; go_num, rfl⟩

theorem row_cell {w : World} {B g cap n : Nat} {l : List UInt8} (h : w.ownsRow B 5 1 (.slice (some ⟨g, 0, none⟩) n cap) n (Lib.byteCells l)) (j : Nat) (hj : j < l.length) :
    w.cell? ((⟨g, 0, none⟩ : Addr).add j) = some (.int .u8 (l[j].toNat : Int)) := by
  obtain ⟨h1, h2⟩ := h
  rcases h2 with ⟨h2, _⟩ | ⟨g', cap', cur, hv, _, hg, hnc, _, hcs, ht⟩
  · cases h2
  · injection hv with hv1 hv2 hv3
    injection hv1 with hv1
    injection hv1 with hv1
    subst hv1
    have e : (⟨g, 0, none⟩ : Addr).add j = ⟨g, j, none⟩ := by unfold Addr.add; split <;> simp_all
    rw [e, Lib.cell_of_heap hg]
    have hx : (Lib.byteCells l)[j]? = some (.int .u8 (l[j].toNat : Int)) := by simp [Lib.byteCells, hj]
    have hjn : j < n := by rw [Lib.byteCells_length] at h1; omega
    rw [← ht, List.getElem?_take_of_lt (by omega)] at hx
    simpa using hx

theorem byteCells_snoc (a : List UInt8) (c : UInt8) : Lib.byteCells (a ++ [c]) = Lib.byteCells a ++ [.int .u8 (c.toNat : Int)] := by simp [Lib.byteCells]

/-- What the text holds at the places that a round reads. -/
theorem at_safe {t : ByteArray} {l : List UInt8} (ht : t.data.toList = esc l) {k : Nat} (hk : k < l.length) (hs : safeB l[k] = true) :
    ∃ h : (esc (l.take k)).length < t.size, t[(esc (l.take k)).length] = l[k] := by
  have hsz : t.size = (esc l).length := by rw [← ht]; simp
  have h1 := esc_at l k hk 0 (by rw [escB_safe hs]; simp)
  have h2 := esc_end l k hk
  rw [escB_safe hs] at h1 h2
  simp at h1 h2
  refine ⟨by omega, ?_⟩
  rw [← ht, List.getElem?_eq_getElem (by simpa using (by omega : (esc (l.take k)).length < t.size))] at h1
  exact Option.some.inj h1
theorem at_not {t : ByteArray} {l : List UInt8} (ht : t.data.toList = esc l) {k : Nat} (hk : k < l.length) (hs : safeB l[k] = false) :
    ∃ h : (esc (l.take k)).length + 2 < t.size, t[(esc (l.take k)).length] = 37 ∧ t[(esc (l.take k)).length + 1] = hexD (l[k].toNat / 16) ∧ t[(esc (l.take k)).length + 2] = hexD (l[k].toNat % 16) := by
  have hsz : t.size = (esc l).length := by rw [← ht]; simp
  have h0 := esc_at l k hk 0 (by rw [escB_not hs]; simp)
  have h1 := esc_at l k hk 1 (by rw [escB_not hs]; simp)
  have h2 := esc_at l k hk 2 (by rw [escB_not hs]; simp)
  have h3 := esc_end l k hk
  rw [escB_not hs] at h0 h1 h2 h3
  simp only [List.length_cons, List.length_nil] at h3
  have hlt : (esc (l.take k)).length + 2 < t.size := by omega
  refine ⟨hlt, ?_, ?_, ?_⟩
  · rw [← ht, List.getElem?_eq_getElem (by simpa using (by omega : (esc (l.take k)).length < t.size))] at h0
    exact Option.some.inj h0
  · rw [← ht, List.getElem?_eq_getElem (by simpa using (by omega : (esc (l.take k)).length + 1 < t.size))] at h1
    exact Option.some.inj h1
  · rw [← ht, List.getElem?_eq_getElem (by simpa using hlt)] at h2
    exact Option.some.inj h2

set_option maxHeartbeats 1000000 in
theorem decode_any (t : ByteArray) (l : List UInt8) (w : World) (ht : t.data.toList = esc l) (hl : l.length ≤ 1048576) :
    Calls Try.prog 25 #[.string t] w fun e w' => e = .returned (.tuple #[.string ⟨l.toArray⟩, .bool true]) ∧ Below w.heap.size w w' := by
  obtain ⟨i0, hi, hz0, hz1, hz2⟩ := info_parts info5d
  have hsz : t.size = (esc l).length := by rw [← ht]; simp
  have htl := esc_len l
  have hts : t.size ≤ 3145728 := by omega
  have hlt : l.length ≤ t.size := by omega
  have HT : Hid (t.data.toList = esc l) := ht
  have HSZ : Hid (t.size = (esc l).length) := hsz
  clear ht hsz htl
  go_enter Try.func25, Try.ntmps25
  go_wp2_with (at_make; refine wpList_make_own _ rfl _ _ 24 rfl w.heap.size 5 i0 (.int .u8 0) 1 Try.underlying24 hi hz0 hz1 _ _ _ t.size rfl rfl rfl ?b2 ?b3 ?b4 ?_)
  case b2 => rw [hz2]; omega
  case b3 => unfold maxLen; omega
  case b4 => exact Nat.le_refl _
  intro w1 hown1 hg1
  go_wp2
  go_loopw [4, 5] (fun v i wr => ∃ k : Nat, k ≤ l.length ∧ i = .int .i64 ((esc (l.take k)).length : Nat) ∧ v = .slice (some ⟨w.heap.size, 0, none⟩) k t.size ∧
      wr.ownsRow w.heap.size 5 1 (.slice (some ⟨w.heap.size, 0, none⟩) k t.size) k (Lib.byteCells (l.take k)) ∧ Below w.heap.size w wr ∧ w.heap.size < wr.heap.size) (fun _ i _ => t.size - (intOf i).toNat)
  case atStart =>
    have hlt1 := (hown1.lt w.heap.size rfl).2
    exact ⟨0, Nat.zero_le _, rfl, rfl, hown1, (Below.refl _ _).grown hg1 (Nat.le_refl _) (fun k hk => by cases hk), hlt1⟩
  case round =>
    clear hown1 hg1
    obtain ⟨k, hk, rfl, rfl, hown, hB, hz⟩ := hrel
    have HO : Hid (wr.ownsRow w.heap.size 5 1 (.slice (some ⟨w.heap.size, 0, none⟩) k t.size) k (Lib.byteCells (l.take k))) := hown
    have HB : Hid (Below w.heap.size w wr) := hB
    clear hown hB
    by_cases hlk : k < l.length
    · have hts1 : Hid (l.take (k + 1) = l.take k ++ [l[k]]) := take_snoc l k hlk
      have hes1 : Hid (esc (l.take (k + 1)) = esc (l.take k) ++ escB l[k]) := esc_take l k hlk
      have HW : Hid (∀ w' : World, w'.ownsRow w.heap.size 5 1 (.slice (some ⟨w.heap.size, 0, none⟩) (k + 1) t.size) (k + 1) (Lib.byteCells (l.take k) ++ [.int .u8 (l[k].toNat : Int)]) →
          w'.ownsRow w.heap.size 5 1 (.slice (some ⟨w.heap.size, 0, none⟩) (k + 1) t.size) (k + 1) (Lib.byteCells (l.take (k + 1)))) := by
        intro w' h; rw [hts1.out, byteCells_snoc]; exact h
      by_cases hsf : safeB l[k] = true
      · obtain ⟨hm, hc⟩ := at_safe HT.out hlk hsf
        have hne := (safe_range l[k] hsf).2.2
        have hel : Hid ((esc (l.take (k + 1))).length = (esc (l.take k)).length + 1) := by show _ = _; rw [hes1.out, escB_safe hsf]; simp
        obtain ⟨c, hcc⟩ : ∃ c, c = l[k] := ⟨_, rfl⟩
        rw [← hcc] at hc hne HW
        have t37 : ((c.toNat : Int) != 37) = true := by rw [bne_iff_ne]; omega
        clear hsf hne hcc hes1 hts1
        go_wp2_with (at_builtin; refine wpList_append_fits _ rfl _ _ 24 rfl w.heap.size 5 i0 1 Try.underlying24 hi hz1 w.heap.size k t.size _ rfl (HO.out.alloc _) ⟨wr.heap.size, 0, none⟩ 1 1 [.int .u8 (c.toNat : Int)] rfl rfl ?c1 ?c2 ?c3 ?_)
        case c1 =>
          intro j u hj
          match j, hj with
          | 0, hj => simp at hj; subst hj; simp [Addr.add]
        case c2 => intro u hu; simp at hu; subst hu; rfl
        case c3 => omega
        intro w2 hown2 hg2
        have hB2 : Below w.heap.size w w2 := (HB.out.alloc (by omega) _).grown hg2 (by simp; omega) (fun q hq => by cases hq; exact Nat.le_refl _)
        have hz2' : w.heap.size < w2.heap.size := by have := hg2.size; simp at this; omega
        have HW2 := HW.out w2 hown2
        clear hown2 hg2
        go_wp2
        exact ⟨⟨k + 1, by omega, by rw [hel.out]; go_num, rfl, HW2, hB2, hz2'⟩, by simp [intOf]; omega⟩
      · have hsf' : safeB l[k] = false := by simpa using hsf
        obtain ⟨hm, hc0, hc1, hc2⟩ := at_not HT.out hlk hsf'
        have hel : Hid ((esc (l.take (k + 1))).length = (esc (l.take k)).length + 3) := by show _ = _; rw [hes1.out, escB_not hsf']; simp
        obtain ⟨hh, hhh⟩ : ∃ hh, hh = l[k].toNat / 16 := ⟨_, rfl⟩
        obtain ⟨ll, hll⟩ : ∃ ll, ll = l[k].toNat % 16 := ⟨_, rfl⟩
        have b1 : hh < 16 := by have := l[k].toNat_lt; omega
        have b2 : ll < 16 := by omega
        have HV : Hid ((l[k].toNat : Int) = (hh : Int) * 16 + ll) := by show _ = _; omega
        rw [← hhh] at hc1
        rw [← hll] at hc2
        clear hsf hsf' hhh hll hes1 hts1
        go_wp2_with fail
        refine (hexval_any hh b1 wr).mono ?_
        rintro e w2 ⟨rfl, rfl⟩
        go_wp2_with fail
        refine (hexval_any ll b2 w2).mono ?_
        rintro e w3 ⟨rfl, rfl⟩
        go_wp2_with (at_builtin; refine wpList_append_fits _ rfl _ _ 24 rfl w.heap.size 5 i0 1 Try.underlying24 hi hz1 w.heap.size k t.size _ rfl (HO.out.alloc _) ⟨w3.heap.size, 0, none⟩ 1 1 [.int .u8 ((hh : Int) * 16 + ll)] rfl rfl ?c1 ?c2 ?c3 ?_)
        case c1 =>
          intro j u hj
          match j, hj with
          | 0, hj => simp at hj; subst hj; simp [Addr.add]
        case c2 => intro u hu; simp at hu; subst hu; rfl
        case c3 => omega
        intro w2 hown2 hg2
        have hB2 : Below w.heap.size w w2 := (HB.out.alloc (by omega) _).grown hg2 (by simp; omega) (fun q hq => by cases hq; exact Nat.le_refl _)
        have hz2' : w.heap.size < w2.heap.size := by have := hg2.size; simp at this; omega
        rw [← HV.out] at hown2
        have HW2 := HW.out w2 hown2
        clear hown2 hg2
        go_wp2
        exact ⟨⟨k + 1, by omega, by rw [hel.out]; go_num, rfl, HW2, hB2, hz2'⟩, by simp [intOf]; omega⟩
    · have hkl : k = l.length := by omega
      have hend : (esc (l.take k)).length = t.size := by rw [HSZ.out, List.take_of_length_le (by omega)]
      have hconv : (convert 24 9 (.slice (some ⟨w.heap.size, 0, none⟩) k t.size)).run Try.prog wr = .ok (.string ⟨l.toArray⟩) wr := by
        have h := run_convert_bytes_back (P := Try.prog) wr 24 9 5 ⟨w.heap.size, 0, none⟩ t.size (l.take k) Try.underlying24 Try.underlying5 Try.underlying9 (fun j hj => row_cell HO.out j hj)
        rw [List.take_of_length_le (by omega), ← hkl] at h
        exact h
      have hge : t.size ≤ (esc (l.take k)).length := by omega
      clear hkl hend
      go_wp2
      go_ret2
      exact ⟨rfl, HB.out⟩

end Go.Proofs.Qxb6000674a