import Derived.Test.Qxb6000674aBuilder
import Derived.Test.Qxb6000674aPlain
import Derived.Deep.RegionHeld3
import Derived.Deep.DeepCutAuto
namespace Go.Proofs.Qxb6000674a
open Go.RowKit

theorem index_set (c : UInt8) (w : World) :
    Calls Try.prog 35 #[.string ⟨#[59, 47, 63, 58, 64, 38, 61, 43, 36, 44, 46, 126, 42, 39, 40, 41, 91, 93]⟩, .int .u8 (c.toNat : Int)] w fun e w' => e = .returned (.int .i64 (Lib.indexByte setL c)) ∧ w' = w := by
  refine (Try.strings_IndexByte ⟨#[59, 47, 63, 58, 64, 38, 61, 43, 36, 44, 46, 126, 42, 39, 40, 41, 91, 93]⟩ (c.toNat : Int) w).mono ?_
  rintro e w' ⟨rfl, rfl⟩
  refine ⟨?_, rfl⟩
  have e : (c.toNat : Int).toNat.toUInt8 = c := by simp
  rw [e]
  rfl

theorem and15 (c : UInt8) : bits .and .u8 (c.toNat : Int) 15 = ((c.toNat % 16 : Nat) : Int) := by
  have h := u8_and15 (x := (c.toNat : Int)) (by omega) (by have := c.toNat_lt; omega)
  rw [h]; omega

theorem hex_at (n : Nat) (h : n < (ByteArray.mk #[48, 49, 50, 51, 52, 53, 54, 55, 56, 57, 65, 66, 67, 68, 69, 70]).size) : (ByteArray.mk #[48, 49, 50, 51, 52, 53, 54, 55, 56, 57, 65, 66, 67, 68, 69, 70])[n] = hexD n := by
  have key : ∀ n : Fin 16, (ByteArray.mk #[48, 49, 50, 51, 52, 53, 54, 55, 56, 57, 65, 66, 67, 68, 69, 70])[n.val]'(n.isLt) = hexD n.val := by decide +kernel
  exact key ⟨n, h⟩

theorem builder_alloc {T e : TypeId} {B b : Nat} {bs : List Value} {w : World} (h : Lib.IsBuilder T e B b bs w) (o : Obj) : Lib.IsBuilder T e B b bs (w.alloc o).drew := by
  have key : ∀ p, Lib.BuilderAt T e B b p bs w → Lib.BuilderAt T e B b p bs (w.alloc o).drew := by
    intro p hp
    have hlt := hp.lt
    obtain ⟨hB, v, hb, hown, hne⟩ := hp
    exact ⟨hB, v, (Lib.alloc_old w o b hlt).trans hb, hown.alloc _, hne⟩
  rcases h with h | h
  · exact .inl (key _ h)
  · exact .inr (key _ h)

theorem write_hex (B b : Nat) (bs : List Value) (x y z : Int) (w1 : World) (h : Lib.IsBuilder 38 5 B b bs w1) (hlen : bs.length + 3 ≤ 140737488355328) (hBw : B ≤ w1.heap.size) :
    Calls Try.prog 37 #[.pointer (some ⟨b, 0, none⟩), .slice (some ⟨w1.heap.size, 0, none⟩) 3 3] (w1.alloc (.cells #[.int .u8 x, .int .u8 y, .int .u8 z] 5)).drew
      fun e w' => e = .returned (.tuple #[.int .i64 3, .nilIface]) ∧ Lib.BuilderAt 38 5 B b (.pointer (some ⟨b, 0, none⟩)) (bs ++ [.int .u8 x, .int .u8 y, .int .u8 z]) w' ∧ Below B w1 w' := by
  have hlt : b < w1.heap.size := by rcases h with h | h <;> exact h.lt
  refine (write_any B b bs ⟨w1.heap.size, 0, none⟩ 3 3 [.int .u8 x, .int .u8 y, .int .u8 z] _ (builder_alloc h _) rfl ?_ (by show w1.heap.size ≠ b; omega) ?_ hlen (by simp; omega)).mono ?_
  · intro j u hj
    match j, hj with
    | 0, hj => simp at hj; subst hj; simp [Addr.add]
    | 1, hj => simp at hj; subst hj; simp [Addr.add]
    | 2, hj => simp at hj; subst hj; simp [Addr.add]
  · intro u hu
    simp at hu
    rcases hu with rfl | rfl | rfl <;> rfl
  · rintro e w' ⟨rfl, h1, hb⟩
    exact ⟨rfl, h1, ((Below.refl _ _).alloc hBw _).drew.trans hb⟩

/-- The relation one byte on. -/
theorem rel_safe {l : List UInt8} {k : Nat} (h : k < l.length) (hs : safeB l[k] = true) : Lib.byteCells (esc (l.take (k + 1))) = Lib.byteCells (esc (l.take k)) ++ [.int .u8 (l[k].toNat : Int)] := by
  rw [esc_take l k h, escB_safe hs]; simp [Lib.byteCells]
theorem rel_not {l : List UInt8} {k : Nat} (h : k < l.length) (hs : safeB l[k] = false) :
    Lib.byteCells (esc (l.take (k + 1))) = Lib.byteCells (esc (l.take k)) ++ [.int .u8 37, .int .u8 ((hexD (l[k].toNat / 16)).toNat : Int), .int .u8 ((hexD (l[k].toNat % 16)).toNat : Int)] := by
  rw [esc_take l k h, escB_not hs]; simp [Lib.byteCells]

set_option maxRecDepth 100000 in
set_option maxHeartbeats 4000000 in
theorem escape_any (s : ByteArray) (w : World) (hs : s.size ≤ 1048576) :
    Calls Try.prog 32 #[.string s] w fun e w' => e = .returned (.string ⟨(esc s.data.toList).toArray⟩) ∧ Below w.heap.size w w' := by
  obtain ⟨l, hl⟩ : ∃ l, l = s.data.toList := ⟨_, rfl⟩
  have hll : l.length = s.size := by rw [hl]; simp
  have HL : Hid (l = s.data.toList) := hl
  clear hl
  go_enter Try.func32, Try.ntmps32
  go_wp2
  go_loopw [4] (fun i wr => ∃ k : Nat, k ≤ s.size ∧ i = .int .i64 k ∧ Lib.IsBuilder 38 5 w.heap.size w.heap.size (Lib.byteCells (esc (l.take k))) wr ∧ Below w.heap.size w wr ∧ w.heap.size < wr.heap.size) (fun i _ => s.size - (intOf i).toNat)
  case atStart => exact ⟨0, Nat.zero_le _, rfl, Lib.fresh_isBuilder 38 5 w, (Below.refl _ _).alloc (Nat.le_refl _) _, by simp⟩
  case round =>
    obtain ⟨k, hk, rfl, hI, hB, hz⟩ := hrel
    have HI : Hid (Lib.IsBuilder 38 5 w.heap.size w.heap.size (Lib.byteCells (esc (l.take k))) wr) := hI
    have HB : Hid (Below w.heap.size w wr) := hB
    clear hI hB
    by_cases hlt : k < s.size
    · have hlk : l[k]'(by omega) = s[k] := by
        have h0 : l[k]? = s.data.toList[k]? := by rw [← HL.out]
        rw [List.getElem?_eq_getElem (by omega), List.getElem?_eq_getElem (by simpa using hlt)] at h0
        exact Option.some.inj h0
      have HLK : Hid (l[k]'(by omega) = s[k]) := hlk
      have hlen : (Lib.byteCells (esc (l.take k))).length + 3 ≤ 140737488355328 := by
        have := (esc_len (l.take k)).2
        rw [Lib.byteCells_length]
        have : (l.take k).length ≤ k := List.length_take_le _ _
        omega
      have HS : Hid (safeB s[k] = true → Lib.byteCells (esc (l.take (k + 1))) = Lib.byteCells (esc (l.take k)) ++ [.int .u8 (s[k].toNat : Int)]) := by
        intro h; rw [rel_safe (by omega) (by rw [hlk]; exact h), hlk]
      have HN : Hid (safeB s[k] = false → Lib.byteCells (esc (l.take (k + 1))) = Lib.byteCells (esc (l.take k)) ++ [.int .u8 37, .int .u8 ((hexD (s[k].toNat / 16)).toNat : Int), .int .u8 ((hexD (s[k].toNat % 16)).toNat : Int)]) := by
        intro h; rw [rel_not (by omega) (by rw [hlk]; exact h), hlk]
      clear hlk
      rcases classes s[k] with ⟨h1, h2⟩ | ⟨h1, h2⟩ | ⟨h1, h2⟩ | h1 | h1 | ⟨hw, t1, t2, hc⟩
      · have HW : Hid (safeB s[k] = true) := safe_of_word (word1 h1 h2)
        go_wp2_with fail
        refine (writeByte_any w.heap.size w.heap.size _ _ wr HI.out (by omega) (by omega)).mono ?_
        rintro e w1 ⟨rfl, hI1, hB1⟩
        go_wp2
        exact ⟨⟨k + 1, by omega, by go_num, by rw [HS.out HW.out]; exact .inr hI1, HB.out.trans hB1, by have := hB1.size; omega⟩, by simp [intOf]; omega⟩
      · have HW : Hid (safeB s[k] = true) := safe_of_word (word2 h1 h2)
        go_wp2_with fail
        refine (writeByte_any w.heap.size w.heap.size _ _ wr HI.out (by omega) (by omega)).mono ?_
        rintro e w1 ⟨rfl, hI1, hB1⟩
        go_wp2
        exact ⟨⟨k + 1, by omega, by go_num, by rw [HS.out HW.out]; exact .inr hI1, HB.out.trans hB1, by have := hB1.size; omega⟩, by simp [intOf]; omega⟩
      · have HW : Hid (safeB s[k] = true) := safe_of_word (word3 h1 h2)
        go_wp2_with fail
        refine (writeByte_any w.heap.size w.heap.size _ _ wr HI.out (by omega) (by omega)).mono ?_
        rintro e w1 ⟨rfl, hI1, hB1⟩
        go_wp2
        exact ⟨⟨k + 1, by omega, by go_num, by rw [HS.out HW.out]; exact .inr hI1, HB.out.trans hB1, by have := hB1.size; omega⟩, by simp [intOf]; omega⟩
      · have HW : Hid (safeB s[k] = true) := safe_of_word (word4 h1)
        have t1 : ((s[k].toNat : Int) == 95) = true := beq_iff_eq.2 h1
        have g1 : (95 : Int) ≤ (s[k].toNat : Int) := by omega
        have g2 : (s[k].toNat : Int) ≤ 95 := by omega
        clear h1
        go_wp2_with fail
        refine (writeByte_any w.heap.size w.heap.size _ _ wr HI.out (by omega) (by omega)).mono ?_
        rintro e w1 ⟨rfl, hI1, hB1⟩
        go_wp2
        exact ⟨⟨k + 1, by omega, by go_num, by rw [HS.out HW.out]; exact .inr hI1, HB.out.trans hB1, by have := hB1.size; omega⟩, by simp [intOf]; omega⟩
      · have HW : Hid (safeB s[k] = true) := safe_of_word (word5 h1)
        have t1 : ((s[k].toNat : Int) == 45) = true := beq_iff_eq.2 h1
        have g1 : (45 : Int) ≤ (s[k].toNat : Int) := by omega
        have g2 : (s[k].toNat : Int) ≤ 45 := by omega
        clear h1
        have t2 : ((s[k].toNat : Int) == 95) = false := by rw [beq_eq_false_iff_ne]; omega
        go_wp2_with fail
        refine (writeByte_any w.heap.size w.heap.size _ _ wr HI.out (by omega) (by omega)).mono ?_
        rintro e w1 ⟨rfl, hI1, hB1⟩
        go_wp2
        exact ⟨⟨k + 1, by omega, by go_num, by rw [HS.out HW.out]; exact .inr hI1, HB.out.trans hB1, by have := hB1.size; omega⟩, by simp [intOf]; omega⟩
      · have HW : Hid (wordB s[k] = false) := hw
        clear hw
        by_cases hset : 0 ≤ Lib.indexByte setL s[k]
        · have HT : Hid (safeB s[k] = true) := safe_of_set hset
          obtain ⟨r, hr⟩ : ∃ r, r = Lib.indexByte setL s[k] := ⟨_, rfl⟩
          have hidx := index_set s[k]
          rw [← hr] at hidx hset
          have HX : Hid (∀ (w : World), Calls Try.prog 35 #[.string ⟨#[59, 47, 63, 58, 64, 38, 61, 43, 36, 44, 46, 126, 42, 39, 40, 41, 91, 93]⟩, .int .u8 (s[k].toNat : Int)] w fun e w' => e = .returned (.int .i64 r) ∧ w' = w) := hidx
          clear hr hidx
          rcases hc with hc | ⟨hc, hc2⟩ | ⟨hc, hc2⟩ | hc
          all_goals
            go_wp2_with fail
            refine (HX.out wr).mono ?_
            rintro e w1 ⟨rfl, rfl⟩
            go_wp2_with fail
            refine (writeByte_any w.heap.size w.heap.size _ _ _ HI.out (by omega) (by omega)).mono ?_
            rintro e w1 ⟨rfl, hI1, hB1⟩
            go_wp2
            exact ⟨⟨k + 1, by omega, by go_num, by rw [HS.out HT.out]; exact .inr hI1, HB.out.trans hB1, by have := hB1.size; omega⟩, by simp [intOf]; omega⟩
        · have HT : Hid (safeB s[k] = false) := not_safe HW.out hset
          obtain ⟨r, hr⟩ : ∃ r, r = Lib.indexByte setL s[k] := ⟨_, rfl⟩
          have hidx := index_set s[k]
          rw [← hr] at hidx hset
          have HX : Hid (∀ (w : World), Calls Try.prog 35 #[.string ⟨#[59, 47, 63, 58, 64, 38, 61, 43, 36, 44, 46, 126, 42, 39, 40, 41, 91, 93]⟩, .int .u8 (s[k].toNat : Int)] w fun e w' => e = .returned (.int .i64 r) ∧ w' = w) := hidx
          clear hr hidx
          have hc4 : (s[k].toNat : Int) < 256 := by have := s[k].toNat_lt; omega
          rcases hc with hc | ⟨hc, hc2⟩ | ⟨hc, hc2⟩ | hc
          all_goals
            go_wp2_with fail
            refine (HX.out wr).mono ?_
            rintro e w1 ⟨rfl, rfl⟩
            go_upto_region 9 with fail
            obtain ⟨hi, hhi⟩ : ∃ hi : Nat, hi = s[k].toNat / 16 := ⟨_, rfl⟩
            obtain ⟨lo, hlo⟩ : ∃ lo : Nat, lo = s[k].toNat % 16 := ⟨_, rfl⟩
            have e4 : ((s[k].toNat : Nat) : Int) / 16 = (hi : Int) := by omega
            have e15 : bits .and .u8 ((s[k].toNat : Nat) : Int) 15 = (lo : Int) := by rw [and15, hlo]
            have b4 : (hi : Int) < 16 := by omega
            have b15 : (lo : Int) < 16 := by omega
            have HHI : Hid (hi = s[k].toNat / 16) := hhi
            have HLO : Hid (lo = s[k].toNat % 16) := hlo
            clear hhi hlo
            go_region_held3 (fun w' => True) (trivial) (first | (go_at_call 37; refine (write_hex _ _ _ _ _ _ _ HI.out hlen (by omega)).mono ?_; rintro e w2 ⟨rfl, hI2, hB2⟩))
            all_goals
              go_wp2
              refine ⟨⟨k + 1, by omega, by go_num, ?_, HB.out.trans hB2, by have := hB2.size; omega⟩, by simp [intOf]; omega⟩
              rw [HN.out HT.out, ← HHI.out, ← HLO.out]
              rw [hex_at, hex_at] at hI2
              exact .inr hI2
    · go_wp2_with fail
      refine (Try.Builder_String_any w.heap.size w.heap.size _ wr HI.out (by omega)).mono ?_
      rintro e w1 ⟨rfl, hB1⟩
      go_wp2
      go_ret
      refine ⟨?_, HB.out.trans hB1⟩
      rw [List.take_of_length_le (by omega), HL.out]
      rfl
end Go.Proofs.Qxb6000674a
