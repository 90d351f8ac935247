import Derived.Test.Qxb6000821aSpell
namespace Go.Proofs.Qxb6000821a
open Go.RowKit

def notDot (c : UInt8) : Bool := decide (c ≠ 46) && decide (c ≠ 91)
def notBr (c : UInt8) : Bool := decide (c ≠ 93)
def notDig (c : UInt8) : Bool := decide (c.toNat < 48) || decide (57 < c.toNat)

/-- The element of the name l that starts at i: its text, whether it stands in brackets, where the next one starts. -/
def nextE (l : List UInt8) (i : Nat) : Option (List UInt8 × Bool × Nat) :=
  if l.length ≤ i then none
  else if 0 < i ∧ l[i]? = some 91 then
    if (l.drop (i + 1)).takeWhile notBr = [] ∨ l.length ≤ i + 1 + ((l.drop (i + 1)).takeWhile notBr).length then none
    else some ((l.drop (i + 1)).takeWhile notBr, true, i + 1 + ((l.drop (i + 1)).takeWhile notBr).length + 1)
  else if 0 < i ∧ l[i]? ≠ some 46 then none
  else if (l.drop (if 0 < i then i + 1 else 0)).takeWhile notDot = [] then none
  else some ((l.drop (if 0 < i then i + 1 else 0)).takeWhile notDot, false, (if 0 < i then i + 1 else 0) + ((l.drop (if 0 < i then i + 1 else 0)).takeWhile notDot).length)

theorem index_while (c : UInt8) : ∀ L : List UInt8, Lib.indexByte L c = if (L.takeWhile (fun d => decide (d ≠ c))).length < L.length then ((L.takeWhile (fun d => decide (d ≠ c))).length : Int) else -1
  | [] => by simp [Lib.indexByte]
  | b :: L => by
    have ih := index_while c L
    unfold Lib.indexByte
    by_cases h : b = c
    · subst h; simp
    · have hb : (b == c) = false := by simpa using h
      rw [hb, ih]
      simp only [List.takeWhile_cons, h, ne_eq, not_false_eq_true, decide_true, if_true, List.length_cons, Bool.false_eq_true, if_false]
      by_cases h2 : (L.takeWhile (fun d => decide (d ≠ c))).length < L.length
      · simp only [ne_eq] at h2
        have h3 : ((((L.takeWhile (fun d => decide (¬ d = c))).length : Int)) == -1) = false := by rw [beq_eq_false_iff_ne]; omega
        simp only [h2, if_true, h3, Nat.add_lt_add_iff_right, Bool.false_eq_true, if_false]
        omega
      · simp only [ne_eq] at h2
        simp only [h2, if_false, Nat.add_lt_add_iff_right]
        rfl

set_option maxHeartbeats 400000 in
theorem index_any (s : ByteArray) (c : Int) (w : World) :
    Calls Try.prog 31 #[.string s, .int .u8 c] w fun e w' => e = .returned (.int .i64 (Lib.indexByte s.data.toList c.toNat.toUInt8)) ∧ w' = w := by
  go_enter Try.func31, Try.ntmps31
  go_wp2
  rw [run_callFunc_extern Try.func35 (by kernel_rfl) (by kernel_rfl) (by kernel_rfl) (e := Extern.BytealgIndexByte.indexByte) (by kernel_rfl), Lib.run_indexByteString s c w]
  simp only [Result.andThen]
  rw [Oper.upon_value]
  go_wp2
  go_ret
  exact ⟨rfl, rfl⟩

theorem ext_list (nm : ByteArray) (a b : Nat) : (nm.extract a b).data.toList = (nm.data.toList.drop a).take (b - a) := by
  rw [ByteArray.data_extract, Array.toList_extract, List.extract_eq_take_drop]

theorem while_take (p : UInt8 → Bool) (L : List UInt8) : L.take (L.takeWhile p).length = L.takeWhile p := by
  conv => lhs; arg 2; rw [← List.takeWhile_append_dropWhile (p := p) (l := L)]
  exact List.take_left

/-- The loop's invariant: the first k bytes of L meet p. -/
theorem while_step {p : UInt8 → Bool} {L : List UInt8} {k : Nat} (h : k ≤ (L.takeWhile p).length) {c : UInt8} (hc : L[k]? = some c) : p c = true ↔ k + 1 ≤ (L.takeWhile p).length := by
  induction L generalizing k with
  | nil => simp at hc
  | cons b L ih =>
    rw [List.takeWhile_cons] at h ⊢
    by_cases hb : p b = true
    · rw [if_pos hb] at h ⊢
      cases k with
      | zero => simp at hc; subst hc; simp [hb]
      | succ k => simp at hc h; simpa using ih h hc
    · rw [if_neg hb] at h ⊢
      simp at h
      subst h
      simp at hc
      subst hc
      simp [hb]
theorem while_le (p : UInt8 → Bool) (L : List UInt8) : (L.takeWhile p).length ≤ L.length := (List.takeWhile_prefix p).length_le

set_option maxHeartbeats 400000 in
theorem next_no1 (nm : ByteArray) (i : Nat) (w : World) (hi : nm.size ≤ i) :
    Calls Try.prog 28 #[.string nm, .int .i64 i] w fun e w' => e = .returned (.tuple #[.agg #[.string ⟨#[]⟩, .bool false], .int .i64 0, .bool false]) ∧ Below w.heap.size w w' := by
  go_enter Try.func28, Try.ntmps28
  go_wp2
  exact bodyPost_ret (v := .tuple #[.agg #[.string ⟨#[]⟩, .bool false], .int .i64 0, .bool false]) (by simp [results, Try.results28, go_sem]) rfl ⟨rfl, (Below.refl _ _).alloc (Nat.le_refl _) _⟩

theorem index_rest (nm : ByteArray) (i : Nat) (r : Int) (hr : Lib.indexByte ((nm.data.toList.drop (i + 1))) 93 = r) (w : World) :
    Calls Try.prog 31 #[.string (nm.extract (i + 1) nm.size), .int .u8 93] w fun e w' => e = .returned (.int .i64 r) ∧ w' = w := by
  have hx : Lib.indexByte (nm.extract (i + 1) nm.size).data.toList (93 : Int).toNat.toUInt8 = r := by
    rw [ext_list, List.take_of_length_le (by simp)]; exact hr
  have := index_any (nm.extract (i + 1) nm.size) 93 w
  rw [hx] at this
  exact this

set_option maxHeartbeats 400000 in
theorem next_br_no (nm : ByteArray) (i : Nat) (w : World) (hn : nm.size ≤ 1048576) (h0 : 0 < i) (hi : i < nm.size) (hc : nm[i] = 91) (r : Int)
    (hr : Lib.indexByte ((nm.data.toList.drop (i + 1))) 93 = r) (hr2 : r ≤ 0) :
    Calls Try.prog 28 #[.string nm, .int .i64 i] w fun e w' => e = .returned (.tuple #[.agg #[.string ⟨#[]⟩, .bool false], .int .i64 0, .bool false]) ∧ Below w.heap.size w w' := by
  have HX : Hid (∀ w : World, Calls Try.prog 31 #[.string (nm.extract (i + 1) nm.size), .int .u8 93] w fun e w' => e = .returned (.int .i64 r) ∧ w' = w) := index_rest nm i r hr
  have t1 : ((nm[i].toNat : Int) == 91) = true := by rw [hc]; rfl
  clear hr hc
  go_enter Try.func28, Try.ntmps28
  go_wp2_with fail
  refine (HX.out _).mono ?_
  rintro e w1 ⟨rfl, rfl⟩
  go_wp2
  exact bodyPost_ret (v := .tuple #[.agg #[.string ⟨#[]⟩, .bool false], .int .i64 0, .bool false]) (by simp [results, Try.results28, go_sem]) rfl ⟨rfl, (Below.refl _ _).alloc (Nat.le_refl _) _⟩

set_option maxHeartbeats 400000 in
theorem next_br_yes (nm : ByteArray) (i : Nat) (w : World) (hn : nm.size ≤ 1048576) (h0 : 0 < i) (hi : i < nm.size) (hc : nm[i] = 91) (m : Nat)
    (hr : Lib.indexByte ((nm.data.toList.drop (i + 1))) 93 = m) (hr2 : 0 < m) (hr3 : i + 1 + m < nm.size) :
    Calls Try.prog 28 #[.string nm, .int .i64 i] w fun e w' => e = .returned (.tuple #[.agg #[.string (nm.extract (i + 1) (i + 1 + m)), .bool true], .int .i64 ((i : Int) + 1 + m + 1), .bool true]) ∧ Below w.heap.size w w' := by
  have HX : Hid (∀ w : World, Calls Try.prog 31 #[.string (nm.extract (i + 1) nm.size), .int .u8 93] w fun e w' => e = .returned (.int .i64 (m : Int)) ∧ w' = w) := index_rest nm i m hr
  have t1 : ((nm[i].toNat : Int) == 91) = true := by rw [hc]; rfl
  clear hr hc
  go_enter Try.func28, Try.ntmps28
  go_wp2_with fail
  refine (HX.out _).mono ?_
  rintro e w1 ⟨rfl, rfl⟩
  go_wp2
  exact bodyPost_ret (v := .tuple #[.agg #[.string (nm.extract (i + 1) (i + 1 + m)), .bool true], .int .i64 ((i : Int) + 1 + m + 1), .bool true]) (by simp [results, Try.results28, go_sem]) rfl ⟨rfl, (Below.refl _ _).alloc (Nat.le_refl _) _⟩

set_option maxHeartbeats 400000 in
theorem next_no2 (nm : ByteArray) (i : Nat) (w : World) (h0 : 0 < i) (hi : i < nm.size) (hc : nm[i] ≠ 91) (hc2 : nm[i] ≠ 46) :
    Calls Try.prog 28 #[.string nm, .int .i64 i] w fun e w' => e = .returned (.tuple #[.agg #[.string ⟨#[]⟩, .bool false], .int .i64 0, .bool false]) ∧ Below w.heap.size w w' := by
  have t1 : ((nm[i].toNat : Int) == 91) = false := by
    rw [beq_eq_false_iff_ne]; intro e; exact hc (UInt8.toNat_inj.1 (show nm[i].toNat = 91 by omega))
  have t2 : ((nm[i].toNat : Int) != 46) = true := by
    rw [bne_iff_ne]; intro e; exact hc2 (UInt8.toNat_inj.1 (show nm[i].toNat = 46 by omega))
  clear hc hc2
  go_enter Try.func28, Try.ntmps28
  go_wp2
  exact bodyPost_ret (v := .tuple #[.agg #[.string ⟨#[]⟩, .bool false], .int .i64 0, .bool false]) (by simp [results, Try.results28, go_sem]) rfl ⟨rfl, (Below.refl _ _).alloc (Nat.le_refl _) _⟩

theorem u8_ne {c : UInt8} {d : UInt8} (h : c ≠ d) : (c.toNat : Int) ≠ (d.toNat : Int) := fun e => h (UInt8.toNat_inj.1 (by omega))

/-- The end of a dot element that starts at st: the text is not empty. -/
def dotT (l : List UInt8) (st : Nat) : List UInt8 := (l.drop st).takeWhile notDot

/-- What the scan meets at place j, the element's text ending at en. -/
def Scan (nm : ByteArray) (st en : Nat) : Prop :=
  ∀ j : Nat, st ≤ j → j ≤ en → ∀ h : j < nm.size, ((j < en ∧ ((nm[j].toNat : Int) != 46) = true ∧ ((nm[j].toNat : Int) != 91) = true) ∨ (j = en ∧ ((nm[j].toNat : Int) != 46) = false) ∨ (j = en ∧ ((nm[j].toNat : Int) != 46) = true ∧ ((nm[j].toNat : Int) != 91) = false))

theorem scan_of (nm : ByteArray) (l : List UInt8) (st : Nat) (hl : l = nm.data.toList) : Scan nm st (st + (dotT l st).length) := by
  intro j h1 h2 h
  have hs : (notDot nm[j] = true ↔ j - st + 1 ≤ (dotT l st).length) := by
    refine while_step (L := l.drop st) (k := j - st) (by unfold dotT at h2; omega) ?_
    rw [List.getElem?_drop, show st + (j - st) = j by omega]
    exact name_at hl _ h
  by_cases h46 : nm[j] = 46
  · right; left
    rw [h46] at hs ⊢
    have : ¬ (j - st + 1 ≤ (dotT l st).length) := fun hh => by simp [notDot] at hs; omega
    exact ⟨by omega, rfl⟩
  · by_cases h91 : nm[j] = 91
    · right; right
      rw [h91] at hs ⊢
      have : ¬ (j - st + 1 ≤ (dotT l st).length) := fun hh => by simp [notDot] at hs; omega
      exact ⟨by omega, rfl, rfl⟩
    · left
      refine ⟨?_, by rw [bne_iff_ne]; exact u8_ne h46, by rw [bne_iff_ne]; exact u8_ne h91⟩
      have := hs.1 (by simp [notDot, h46, h91])
      omega

set_option maxHeartbeats 1000000 in
theorem next_dot (nm : ByteArray) (i st en : Nat) (w : World) (hn : nm.size ≤ 1048576) (hi : i < nm.size) (hsc : Scan nm st en) (hse : st < en) (hen : en ≤ nm.size)
    (hst : (i = 0 ∧ st = 0) ∨ (0 < i ∧ st = i + 1 ∧ nm[i] = 46)) :
    Calls Try.prog 28 #[.string nm, .int .i64 i] w fun e w' => e = .returned (.tuple #[.agg #[.string (nm.extract st en), .bool false], .int .i64 ((en : Nat) : Int), .bool true]) ∧ Below w.heap.size w w' := by
  have HK : Hid (Scan nm st en) := hsc
  clear hsc
  rcases hst with ⟨rfl, rfl⟩ | ⟨h0, rfl, hc⟩
  · have hne : ¬ nm = ByteArray.empty := fun e => by rw [e] at hi; exact absurd hi (by decide)
    go_enter Try.func28, Try.ntmps28
    go_wp2
    go_loop [10] (fun e => ∃ j : Nat, j ≤ en ∧ e = .int .i64 ((j : Nat) : Int)) (fun e => en - (intOf e).toNat)
    case atStart => exact ⟨0, Nat.zero_le _, rfl⟩
    case round =>
      obtain ⟨j, hj, rfl⟩ := hrel
      by_cases hlt : j < nm.size
      · rcases HK.out j (by omega) hj hlt with ⟨h1, h2, h3⟩ | ⟨h1, h2⟩ | ⟨h1, h2, h3⟩
        · go_wp2
          exact ⟨⟨j + 1, by omega, by go_num⟩, by simp [intOf]; omega⟩
        · subst h1
          go_wp2
          exact bodyPost_ret (v := .tuple #[.agg #[.string (nm.extract 0 j), .bool false], .int .i64 ((j : Nat) : Int), .bool true]) (by simp [results, Try.results28, go_sem]) rfl ⟨rfl, (Below.refl _ _).alloc (Nat.le_refl _) _⟩
        · subst h1
          go_wp2
          exact bodyPost_ret (v := .tuple #[.agg #[.string (nm.extract 0 j), .bool false], .int .i64 ((j : Nat) : Int), .bool true]) (by simp [results, Try.results28, go_sem]) rfl ⟨rfl, (Below.refl _ _).alloc (Nat.le_refl _) _⟩
      · obtain rfl : j = en := by omega
        go_wp2
        exact bodyPost_ret (v := .tuple #[.agg #[.string (nm.extract 0 j), .bool false], .int .i64 ((j : Nat) : Int), .bool true]) (by simp [results, Try.results28, go_sem]) rfl ⟨rfl, (Below.refl _ _).alloc (Nat.le_refl _) _⟩
  · have t1 : ((nm[i].toNat : Int) == 91) = false := by rw [hc]; rfl
    have t2 : ((nm[i].toNat : Int) != 46) = false := by rw [hc]; rfl
    clear hc
    go_enter Try.func28, Try.ntmps28
    go_wp2
    go_loop [10] (fun e => ∃ j : Nat, i + 1 ≤ j ∧ j ≤ en ∧ e = .int .i64 ((j : Nat) : Int)) (fun e => en - (intOf e).toNat)
    case atStart => exact ⟨i + 1, Nat.le_refl _, by omega, by go_num⟩
    case round =>
      obtain ⟨j, hj0, hj, rfl⟩ := hrel
      have hne : ((j : Int) == (i : Int) + 1) = decide (j = i + 1) := by
        by_cases h : j = i + 1
        · subst h; simp
        · rw [decide_eq_false h, beq_eq_false_iff_ne]; omega
      by_cases hlt : j < nm.size
      · rcases HK.out j (by omega) hj hlt with ⟨h1, h2, h3⟩ | ⟨h1, h2⟩ | ⟨h1, h2, h3⟩
        · clear hne
          go_wp2
          exact ⟨⟨j + 1, by omega, by omega, by go_num⟩, by simp [intOf]; omega⟩
        · subst h1
          have hz : ((j : Int) == (i : Int) + 1) = false := by rw [beq_eq_false_iff_ne]; omega
          clear hne
          go_wp2
          exact bodyPost_ret (v := .tuple #[.agg #[.string (nm.extract (i + 1) j), .bool false], .int .i64 ((j : Nat) : Int), .bool true]) (by simp [results, Try.results28, go_sem]) rfl ⟨rfl, (Below.refl _ _).alloc (Nat.le_refl _) _⟩
        · subst h1
          have hz : ((j : Int) == (i : Int) + 1) = false := by rw [beq_eq_false_iff_ne]; omega
          clear hne
          go_wp2
          exact bodyPost_ret (v := .tuple #[.agg #[.string (nm.extract (i + 1) j), .bool false], .int .i64 ((j : Nat) : Int), .bool true]) (by simp [results, Try.results28, go_sem]) rfl ⟨rfl, (Below.refl _ _).alloc (Nat.le_refl _) _⟩
      · obtain rfl : j = en := by omega
        have hz : ((j : Int) == (i : Int) + 1) = false := by rw [beq_eq_false_iff_ne]; omega
        clear hne
        go_wp2
        exact bodyPost_ret (v := .tuple #[.agg #[.string (nm.extract (i + 1) j), .bool false], .int .i64 ((j : Nat) : Int), .bool true]) (by simp [results, Try.results28, go_sem]) rfl ⟨rfl, (Below.refl _ _).alloc (Nat.le_refl _) _⟩

set_option maxHeartbeats 1000000 in
theorem next_none (nm : ByteArray) (i st : Nat) (w : World) (hn : nm.size ≤ 1048576) (hi : i < nm.size) (hsc : Scan nm st st)
    (hst : (i = 0 ∧ st = 0) ∨ (0 < i ∧ st = i + 1 ∧ nm[i] = 46)) :
    Calls Try.prog 28 #[.string nm, .int .i64 i] w fun e w' => e = .returned (.tuple #[.agg #[.string ⟨#[]⟩, .bool false], .int .i64 0, .bool false]) ∧ Below w.heap.size w w' := by
  have HK : Hid (Scan nm st st) := hsc
  clear hsc
  rcases hst with ⟨rfl, rfl⟩ | ⟨h0, rfl, hc⟩
  · have hne : ¬ nm = ByteArray.empty := fun e => by rw [e] at hi; exact absurd hi (by decide)
    rcases HK.out 0 (by omega) (by omega) hi with ⟨h1, h2, h3⟩ | ⟨h1, h2⟩ | ⟨h1, h2, h3⟩
    · omega
    · clear h1
      go_enter Try.func28, Try.ntmps28
      go_wp2
      go_loop [10] (fun e => e = .int .i64 0) (fun _ => 0)
      case atStart => rfl
      case round =>
        obtain rfl := hrel
        go_wp2
        exact bodyPost_ret (v := .tuple #[.agg #[.string ⟨#[]⟩, .bool false], .int .i64 0, .bool false]) (by simp [results, Try.results28, go_sem]) rfl ⟨rfl, (Below.refl _ _).alloc (Nat.le_refl _) _⟩
    · clear h1
      go_enter Try.func28, Try.ntmps28
      go_wp2
      go_loop [10] (fun e => e = .int .i64 0) (fun _ => 0)
      case atStart => rfl
      case round =>
        obtain rfl := hrel
        go_wp2
        exact bodyPost_ret (v := .tuple #[.agg #[.string ⟨#[]⟩, .bool false], .int .i64 0, .bool false]) (by simp [results, Try.results28, go_sem]) rfl ⟨rfl, (Below.refl _ _).alloc (Nat.le_refl _) _⟩
  · have t1 : ((nm[i].toNat : Int) == 91) = false := by rw [hc]; rfl
    have t2 : ((nm[i].toNat : Int) != 46) = false := by rw [hc]; rfl
    have tz : ((i : Int) + 1 == (i : Int) + 1) = true := by simp
    clear hc
    go_enter Try.func28, Try.ntmps28
    go_wp2
    go_loop [10] (fun e => e = .int .i64 ((i : Int) + 1)) (fun _ => 0)
    case atStart => rfl
    case round =>
      obtain rfl := hrel
      by_cases hlt : i + 1 < nm.size
      · rcases HK.out (i + 1) (by omega) (by omega) hlt with ⟨h1, h2, h3⟩ | ⟨h1, h2⟩ | ⟨h1, h2, h3⟩
        · omega
        · clear h1
          go_wp2
          exact bodyPost_ret (v := .tuple #[.agg #[.string ⟨#[]⟩, .bool false], .int .i64 0, .bool false]) (by simp [results, Try.results28, go_sem]) rfl ⟨rfl, (Below.refl _ _).alloc (Nat.le_refl _) _⟩
        · clear h1
          go_wp2
          exact bodyPost_ret (v := .tuple #[.agg #[.string ⟨#[]⟩, .bool false], .int .i64 0, .bool false]) (by simp [results, Try.results28, go_sem]) rfl ⟨rfl, (Below.refl _ _).alloc (Nat.le_refl _) _⟩
      · go_wp2
        exact bodyPost_ret (v := .tuple #[.agg #[.string ⟨#[]⟩, .bool false], .int .i64 0, .bool false]) (by simp [results, Try.results28, go_sem]) rfl ⟨rfl, (Below.refl _ _).alloc (Nat.le_refl _) _⟩
end Go.Proofs.Qxb6000821a
