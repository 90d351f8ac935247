import Derived.Test.Qxb6000821aSpell
import Derived.Deep.QuietTactic
import Derived.BigQuiet
namespace Go.Proofs.Qxb6000821a
open Go.RowKit

/-- The form in block fb: its table and its three strings. -/
structure FormAt (w : World) (fb : Nat) (ch : UInt8 → UInt8) (sep op cl : ByteArray) : Prop where
  char : ∀ c : UInt8, w.cell? ⟨fb, c.toNat, none⟩ = some (.int .u8 ((ch c).toNat : Int))
  sep : w.cell? ⟨fb, 256, none⟩ = some (.string sep)
  open_ : w.cell? ⟨fb, 257, none⟩ = some (.string op)
  close : w.cell? ⟨fb, 258, none⟩ = some (.string cl)
  lt : fb < w.heap.size

/-- What the form writes for a text. -/
def out (ch : UInt8 → UInt8) (t : List UInt8) : List UInt8 := (t.map ch).filter fun c => decide (c ≠ 0)
def okT (ch : UInt8 → UInt8) (t : List UInt8) : Bool := t.all fun c => decide (ch c ≠ 255)

theorem out_zero {ch : UInt8 → UInt8} {t : List UInt8} {c : UInt8} (h : ch c = 0) : out ch (t ++ [c]) = out ch t := by simp [out, h]
theorem out_some {ch : UInt8 → UInt8} {t : List UInt8} {c : UInt8} (h : ch c ≠ 0) : out ch (t ++ [c]) = out ch t ++ [ch c] := by simp [out, h]
theorem out_le (ch : UInt8 → UInt8) (t : List UInt8) : (out ch t).length ≤ t.length := by
  have := List.length_filter_le (fun c : UInt8 => decide (c ≠ 0)) (t.map ch)
  simpa [out] using this

/-- The fast way's relation: each of the first k bytes is spelled as itself. -/
def Fast (ch : UInt8 → UInt8) (t : List UInt8) (k : Nat) : Prop := ∀ c ∈ t.take k, ch c = c ∧ c ≠ 0
theorem fast_out {ch : UInt8 → UInt8} {t : List UInt8} {k : Nat} (h : Fast ch t k) : out ch (t.take k) = t.take k := by
  unfold out
  have e : (t.take k).map ch = t.take k := by
    rw [List.map_congr_left (g := id) (fun c hc => (h c hc).1)]; simp
  rw [e]
  exact List.filter_eq_self.2 (fun c hc => by simpa using (h c hc).2)

theorem u8_neq {c d : UInt8} {n : Int} (h : c ≠ d) (hd : (d.toNat : Int) = n) : (c.toNat : Int) ≠ n := fun e => h (UInt8.toNat_inj.1 (by omega))
theorem okT_no {ch : UInt8 → UInt8} {s : ByteArray} {t : List UInt8} (ht : t = s.data.toList) {k : Nat} (hk : k < s.size) (h : ch s[k] = 255) : okT ch t = false := by
  cases ho : okT ch t with
  | false => rfl
  | true =>
    unfold okT at ho
    simp only [List.all_eq_true, decide_eq_true_eq] at ho
    have h0 := name_at ht k hk
    exact absurd h (ho s[k] (List.mem_of_getElem? h0))

theorem Step.drewN {w w' : World} {v v' : Value} (h : Step w v w' v') (n : Nat) : Step w v (w'.drewN n) v' := ⟨h.os, h.tape, h.output, h.size, h.block, h.home⟩

/-- What spellText leaves. -/
def TextPost (B : Nat) (ch : UInt8 → UInt8) (D l S t : List UInt8) (v : Value) (w : World) (e : Ending) (w' : World) : Prop :=
  ∃ v' at', e = .returned (.tuple #[v', .int .i64 at', .bool (okT ch t && !(out ch t).isEmpty)]) ∧ Step w v w' v' ∧
    ((okT ch t && !(out ch t).isEmpty) = true → at' = atOf l (S ++ out ch t) ∧ Holds B w' v' (hold D l (S ++ out ch t))) ∧
    ((okT ch t && !(out ch t).isEmpty) = false → ∃ Y, hold D l S <+: Y ∧ Holds B w' v' Y)

set_option maxHeartbeats 2000000 in
theorem text_off (B fb : Nat) (ch : UInt8 → UInt8) (sep op cl : ByteArray) (D l S : List UInt8) (v : Value) (nm s : ByteArray) (t : List UInt8) (w : World) (hl : l = nm.data.toList) (ht : t = s.data.toList) (hn : nm.size ≤ 1048576) (hs : s.size ≤ 1048576)
    (hD : D.length ≤ 1048576) (hS : S.length + t.length ≤ 4194304) (hB : B ≤ w.heap.size) (hv : Holds B w v (hold D l S)) (hvf : v.ownBlock ≠ some fb)
    (hf : FormAt w fb ch sep op cl) (hp : pre l S = false) :
    Calls Try.prog 30 #[.pointer (some ⟨fb, 0, none⟩), v, .int .i64 (-1), .string nm, .agg #[.string s, .bool false]] w (TextPost B ch D l S t v w) := by
  have htl : t.length = s.size := by rw [ht]; simp
  have HT : Hid (t = s.data.toList) := ht
  have HL : Hid (l = nm.data.toList) := hl
  have HF : Hid (FormAt w fb ch sep op cl) := hf
  have HFC : Hid (∀ c : UInt8, (w.alloc (.cells #[.string s, .bool false] 45)).cell? ⟨fb, c.toNat, none⟩ = some (.int .u8 ((ch c).toNat : Int))) := fun c => by
    rw [World.cell?_of_block (Below.heap_alloc w _ fb hf.lt)]; exact hf.char c
  have HV : Hid (Holds B w v (hold D l S)) := hv
  have HVF : Hid (v.ownBlock ≠ some fb) := hvf
  have HVE : Hid (v.ownBlock ≠ some w.heap.size) := fun e => by have := (hv.base _ e).2; omega
  have HP : Hid (atOf l S = -1) := atOf_no hp
  unfold TextPost
  clear ht hl hf hv hvf hp
  go_enter Try.func30, Try.ntmps30
  go_wp2
  go_loopw [1, 2, 13, 14] (fun dv at_ j wrote wr => ∃ k : Nat, k ≤ t.length ∧ j = .int .i64 (k : Int) ∧ at_ = .int .i64 (atOf l (S ++ out ch (t.take k))) ∧ wrote = .bool (!(out ch (t.take k)).isEmpty) ∧ okT ch (t.take k) = true ∧
      Holds B wr dv (hold D l (S ++ out ch (t.take k))) ∧ Step (w.alloc (.cells #[.string s, .bool false] 45)) v wr dv) (fun _ _ j _ _ => t.length - (intOf j).toNat)
  case atStart => exact ⟨0, Nat.zero_le _, rfl, by simp [out, HP.out], by simp [out], by simp [okT], by simpa [out] using HV.out.alloc _, Step.refl _ _⟩
  case round =>
    obtain ⟨k, hk, rfl, rfl, rfl, hok, hh, hst⟩ := hrel
    have HOK : Hid (okT ch (t.take k) = true) := hok
    have HH : Hid (Holds B wr u1 (hold D l (S ++ out ch (t.take k)))) := hh
    have HST : Hid (Step (w.alloc (.cells #[.string s, .bool false] 45)) v wr u1) := hst
    have he : wr.cell? ⟨w.heap.size, 0, none⟩ = some (.string s) := by
      rw [hst.cell (p := ⟨w.heap.size, 0, none⟩) (by simp) HVE.out]; simp
    have hBr : B ≤ wr.heap.size := by have := hst.size; simp at this; omega
    clear hok hh hst
    by_cases hlt : k < s.size
    · have hcell : wr.cell? ⟨fb, s[k].toNat, none⟩ = some (.int .u8 ((ch s[k]).toNat : Int)) := by
        rw [HST.out.cell (p := ⟨fb, s[k].toNat, none⟩) (by have := HF.out.lt; simp; omega) HVF.out]
        exact HFC.out s[k]
      have hb1 : (s[k].toNat : Int) < 256 := by have := s[k].toNat_lt; omega
      have hI : (k : Int) < (s.size : Int) := by omega
      have htk : t.take (k + 1) = t.take k ++ [s[k]] := by
        rw [take_snoc t k (by omega)]
        have h0 := name_at HT.out k hlt
        rw [List.getElem?_eq_getElem (by omega)] at h0
        rw [Option.some.inj h0]
      have HTK : Hid (t.take (k + 1) = t.take k ++ [s[k]]) := htk
      clear htk
      obtain ⟨c, hc⟩ : ∃ c, c = ch s[k] := ⟨_, rfl⟩
      have HC : Hid (ch s[k] = c) := hc.symm
      rw [← hc] at hcell
      clear hc
      by_cases h255 : c = 255
      · have t1 : ((c.toNat : Int) == 255) = true := by rw [h255]; rfl
        have HBAD : Hid (okT ch t = false) := okT_no HT.out hlt (by rw [HC.out, h255])
        have H255 : Hid (c = 255) := h255
        clear h255
        go_wp2_with fail
        go_quiet (fail)
        go_wp2
        go_ret3
        refine ⟨u1, atOf l (S ++ out ch (t.take k)), ?_, (((Step.refl w v).alloc _).trans HST.out).drewN _, fun h => ?_, fun _ => ⟨_, hold_grows D l S _, HH.out⟩⟩
        · rw [HBAD.out]; rfl
        · rw [HBAD.out] at h; cases h
      · have t1 : ((c.toNat : Int) == 255) = false := by rw [beq_eq_false_iff_ne]; exact u8_neq h255 rfl
        have hokn : okT ch (t.take (k + 1)) = true := by rw [HTK.out]; simp [okT, HC.out, h255]; simpa [okT] using HOK.out
        have HOKN : Hid (okT ch (t.take (k + 1)) = true) := hokn
        clear hokn h255
        by_cases h0 : c = 0
        · have t2 : ((c.toNat : Int) != 0) = false := by rw [h0]; rfl
          have HN : Hid (out ch (t.take (k + 1)) = out ch (t.take k)) := by show _ = _; rw [HTK.out, out_zero (by rw [HC.out, h0])]
          clear h0
          go_wp2_with fail
          go_quiet (fail)
          go_wp2
          refine ⟨⟨k + 1, by omega, by go_num, by rw [HN.out], by rw [HN.out], HOKN.out, by rw [HN.out]; exact HH.out, HST.out.drewN _⟩, by simp [intOf]; omega⟩
        · have t2 : ((c.toNat : Int) != 0) = true := by rw [bne_iff_ne]; exact u8_neq h0 rfl
          have HN : Hid (out ch (t.take (k + 1)) = out ch (t.take k) ++ [c]) := by show _ = _; rw [HTK.out, out_some (by rw [HC.out]; exact h0), HC.out]
          clear h0
          have hol := out_le ch (t.take k)
          have htl2 : (t.take k).length ≤ k := List.length_take_le _ _
          have HBY : Hid (∀ q : Nat, Calls Try.prog 32 #[u1, .int .i64 (atOf l (S ++ out ch (t.take k))), .string nm, .int .u8 (c.toNat : Int)] (wr.drewN q)
              fun e w' => ∃ v', e = .returned (.tuple #[v', .int .i64 (atOf l (S ++ out ch (t.take (k + 1))))]) ∧ Holds B w' v' (hold D l (S ++ out ch (t.take (k + 1)))) ∧ Step wr u1 w' v') := by
            intro q
            rw [HN.out, ← List.append_assoc]
            refine (byte_any B D l (S ++ out ch (t.take k)) u1 nm c (wr.drewN q) HL.out hn hD (by simp; omega) hBr HH.out).mono ?_
            rintro e w' ⟨v', rfl, h1, h2⟩
            exact ⟨v', rfl, h1, ⟨h2.os, h2.tape, h2.output, h2.size, h2.block, h2.home⟩⟩
          clear hol htl2
          go_wp2_with fail
          go_quiet (fail)
          go_wp2_with fail
          refine (HBY.out _).mono ?_
          rintro e w2 ⟨v2, rfl, h1, h2⟩
          have H1 : Hid (Holds B w2 v2 (hold D l (S ++ out ch (t.take (k + 1))))) := h1
          have H2 : Hid (Step (w.alloc (.cells #[.string s, .bool false] 45)) v w2 v2) := HST.out.trans h2
          clear h1 h2
          go_wp2
          refine ⟨⟨k + 1, by omega, by go_num, rfl, ?_, HOKN.out, H1.out, H2.out⟩, by simp [intOf]; omega⟩
          rw [HN.out]; simp
    · have hkl : k = t.length := by omega
      have E1 : Hid (t.take k = t) := by show _ = _; rw [List.take_of_length_le (by omega)]
      clear hkl
      go_wp2
      go_ret3
      have ho : okT ch t = true := by have := HOK.out; rw [E1.out] at this; exact this
      have hH := HH.out
      rw [E1.out] at hH
      refine ⟨u1, atOf l (S ++ out ch t), by rw [ho]; simp [E1.out], ((Step.refl w v).alloc _).trans HST.out, fun _ => ⟨rfl, hH⟩, fun h => ⟨_, hold_grows D l S _, hH⟩⟩
theorem fast_step {ch : UInt8 → UInt8} {s : ByteArray} {t : List UInt8} (ht : t = s.data.toList) {k : Nat} (hk : k < s.size) (h : Fast ch t k) (h1 : ch s[k] = s[k]) (h2 : s[k] ≠ 0) : Fast ch t (k + 1) := by
  intro c hc
  have htl : t.length = s.size := by rw [ht]; simp
  rw [take_snoc t k (by omega)] at hc
  rcases List.mem_append.1 hc with h3 | h3
  · exact h c h3
  · have h0 := name_at ht k hk
    rw [List.getElem?_eq_getElem (by omega)] at h0
    rw [List.mem_singleton] at h3
    rw [h3, Option.some.inj h0]
    exact ⟨h1, h2⟩
theorem fast_ok {ch : UInt8 → UInt8} {t : List UInt8} {k : Nat} (h : Fast ch t k) (h255 : ∀ c ∈ t, c ≠ 255) : okT ch (t.take k) = true := by
  unfold okT
  rw [List.all_eq_true]
  intro c hc
  rw [decide_eq_true_eq, (h c hc).1]
  exact h255 c (List.mem_of_mem_take hc)

set_option maxHeartbeats 4000000 in
theorem text_on (B fb : Nat) (ch : UInt8 → UInt8) (sep op cl : ByteArray) (D l S : List UInt8) (v : Value) (nm s : ByteArray) (t : List UInt8) (w : World) (hl : l = nm.data.toList) (ht : t = s.data.toList) (hn : nm.size ≤ 1048576) (hs : s.size ≤ 1048576)
    (hD : D.length ≤ 1048576) (hS : S.length + t.length ≤ 4194304) (hB : B ≤ w.heap.size) (hv : Holds B w v (hold D l S)) (hvf : v.ownBlock ≠ some fb)
    (hf : FormAt w fb ch sep op cl) (hp : pre l (S ++ t) = true) (h255 : ∀ c ∈ t, c ≠ 255) :
    Calls Try.prog 30 #[.pointer (some ⟨fb, 0, none⟩), v, .int .i64 (S.length : Int), .string nm, .agg #[.string s, .bool false]] w (TextPost B ch D l S t v w) := by
  have htl : t.length = s.size := by rw [ht]; simp
  have HT : Hid (t = s.data.toList) := ht
  have HL : Hid (l = nm.data.toList) := hl
  have HF : Hid (FormAt w fb ch sep op cl) := hf
  have HFC : Hid (∀ c : UInt8, (w.alloc (.cells #[.string s, .bool false] 45)).cell? ⟨fb, c.toNat, none⟩ = some (.int .u8 ((ch c).toNat : Int))) := fun c => by
    rw [World.cell?_of_block (Below.heap_alloc w _ fb hf.lt)]; exact hf.char c
  have HV : Hid (Holds B w v (hold D l S)) := hv
  have HVF : Hid (v.ownBlock ≠ some fb) := hvf
  have HVE : Hid (v.ownBlock ≠ some w.heap.size) := fun e => by have := (hv.base _ e).2; omega
  have HP : Hid (pre l (S ++ t) = true) := hp
  have H255 : Hid (∀ c ∈ t, c ≠ 255) := h255
  unfold TextPost
  clear ht hl hf hv hvf hp h255
  obtain ⟨a, ha⟩ : ∃ a, a = S.length := ⟨_, rfl⟩
  have HA : Hid (a = S.length) := ha
  have hab : a ≤ 4194304 := by omega
  rw [← ha]
  clear ha
  go_enter Try.func30, Try.ntmps30
  go_wp2
  go_loopw [13] (fun j wr => ∃ k q : Nat, k ≤ t.length ∧ j = .int .i64 (k : Int) ∧ wr = (w.alloc (.cells #[.string s, .bool false] 45)).drewN q ∧ Fast ch t k) (fun j _ => t.length - (intOf j).toNat)
  case atStart => exact ⟨0, 0, Nat.zero_le _, rfl, rfl, fun c hc => by simp at hc⟩
  case round =>
    obtain ⟨k, q, hk, rfl, rfl, hfa⟩ := hrel
    have HFA : Hid (Fast ch t k) := hfa
    clear hfa
    by_cases hgo : ∃ h : k < s.size, ch s[k] = s[k] ∧ s[k] ≠ 0
    · obtain ⟨hlt, h1, h2⟩ := hgo
      have HN : Hid (Fast ch t (k + 1)) := fast_step HT.out hlt HFA.out h1 h2
      have hcell := HFC.out s[k]
      have hb1 : (s[k].toNat : Int) < 256 := by have := s[k].toNat_lt; omega
      have t1 : (((ch s[k]).toNat : Int) == (s[k].toNat : Int)) = true := by rw [h1]; simp
      have t2 : ((s[k].toNat : Int) != 0) = true := by rw [bne_iff_ne]; exact u8_neq h2 rfl
      have hI : (k : Int) < (s.size : Int) := by omega
      clear h1 h2
      go_wp2_with fail
      go_quiet (fail)
      go_wp2
      refine ⟨⟨k + 1, _, by omega, by go_num, rfl, HN.out⟩, by simp [intOf]; omega⟩
    · have HOUT : Hid (out ch (t.take k) = t.take k) := fast_out HFA.out
      have HPRE : Hid (pre l (S ++ t.take k) = true) := by
        refine pre_left (X := t.drop k) ?_
        rw [List.append_assoc, List.take_append_drop]; exact HP.out
      have HAT : Hid (atOf l (S ++ out ch (t.take k)) = (a : Int) + (k : Int)) := by
        show _ = _
        rw [HOUT.out, atOf_yes HPRE.out, HA.out]
        simp; omega
      have HW : Hid ((!(out ch (t.take k)).isEmpty) = decide (0 < k)) := by
        show _ = _
        rw [HOUT.out]
        cases k with
        | zero => simp
        | succ k => cases t with
          | nil => simp at hk
          | cons b t => simp
      have HH0 : Hid (Holds B (w.alloc (.cells #[.string s, .bool false] 45)) v (hold D l (S ++ out ch (t.take k)))) := by
        have h := HV.out
        rw [hold_yes (pre_left HPRE.out)] at h
        show Holds _ _ _ _
        rw [HOUT.out, hold_yes HPRE.out]
        exact h.alloc _
      clear HOUT HPRE
      have hdec : (decide ((k : Int) < (s.size : Int)) = false ∧ s.size ≤ k) ∨ (∃ h : k < s.size, (((ch s[k]).toNat : Int) == (s[k].toNat : Int)) = false) ∨
          (∃ h : k < s.size, (((ch s[k]).toNat : Int) == (s[k].toNat : Int)) = true ∧ ((s[k].toNat : Int) != 0) = false) := by
        by_cases hlt : k < s.size
        · by_cases h1 : ch s[k] = s[k]
          · right; right
            refine ⟨hlt, by rw [h1]; simp, ?_⟩
            have h0 : s[k] = 0 := Classical.byContradiction fun h => hgo ⟨hlt, h1, h⟩
            rw [h0]; rfl
          · right; left
            refine ⟨hlt, ?_⟩
            rw [beq_eq_false_iff_ne]
            intro e
            exact h1 (UInt8.toNat_inj.1 (by omega))
        · left
          exact ⟨by simp; omega, by omega⟩
      clear hgo
      rcases hdec with ⟨h1, hge⟩ | ⟨hlt, t1⟩ | ⟨hlt, t1, t2⟩
      · have h1' : decide (k < s.size) = false := by simp; omega
        go_wp2_with fail
        go_quiet (fail)
        go_wp2
        clear h1 h1'
        go_loopw [1, 2, 13, 14] (fun dv at_ j wrote wr => ∃ k : Nat, k ≤ t.length ∧ j = .int .i64 (k : Int) ∧ at_ = .int .i64 (atOf l (S ++ out ch (t.take k))) ∧ wrote = .bool (!(out ch (t.take k)).isEmpty) ∧ okT ch (t.take k) = true ∧
            Holds B wr dv (hold D l (S ++ out ch (t.take k))) ∧ Step (w.alloc (.cells #[.string s, .bool false] 45)) v wr dv) (fun _ _ j _ _ => t.length - (intOf j).toNat)
        case atStart => exact ⟨k, hk, rfl, by rw [HAT.out], by rw [HW.out], fast_ok HFA.out H255.out, HH0.out, (Step.refl _ _).drewN _⟩
        case round =>
          clear HAT HW HFA HH0 hk
          obtain ⟨k, hk, rfl, rfl, rfl, hok, hh, hst⟩ := hrel
          have HOK : Hid (okT ch (t.take k) = true) := hok
          have HH : Hid (Holds B wr u1 (hold D l (S ++ out ch (t.take k)))) := hh
          have HST : Hid (Step (w.alloc (.cells #[.string s, .bool false] 45)) v wr u1) := hst
          have he : wr.cell? ⟨w.heap.size, 0, none⟩ = some (.string s) := by
            rw [hst.cell (p := ⟨w.heap.size, 0, none⟩) (by simp) HVE.out]; simp
          have hBr : B ≤ wr.heap.size := by have := hst.size; simp at this; omega
          clear hok hh hst
          by_cases hlt : k < s.size
          · have hcell : wr.cell? ⟨fb, s[k].toNat, none⟩ = some (.int .u8 ((ch s[k]).toNat : Int)) := by
              rw [HST.out.cell (p := ⟨fb, s[k].toNat, none⟩) (by have := HF.out.lt; simp; omega) HVF.out]
              exact HFC.out s[k]
            have hb1 : (s[k].toNat : Int) < 256 := by have := s[k].toNat_lt; omega
            have hI : (k : Int) < (s.size : Int) := by omega
            have htk : t.take (k + 1) = t.take k ++ [s[k]] := by
              rw [take_snoc t k (by omega)]
              have h0 := name_at HT.out k hlt
              rw [List.getElem?_eq_getElem (by omega)] at h0
              rw [Option.some.inj h0]
            have HTK : Hid (t.take (k + 1) = t.take k ++ [s[k]]) := htk
            clear htk
            obtain ⟨c, hc⟩ : ∃ c, c = ch s[k] := ⟨_, rfl⟩
            have HC : Hid (ch s[k] = c) := hc.symm
            rw [← hc] at hcell
            clear hc
            by_cases h255 : c = 255
            · have t1 : ((c.toNat : Int) == 255) = true := by rw [h255]; rfl
              have HBAD : Hid (okT ch t = false) := okT_no HT.out hlt (by rw [HC.out, h255])
              have H255 : Hid (c = 255) := h255
              clear h255
              go_wp2_with fail
              go_quiet (fail)
              go_wp2
              go_ret3
              refine ⟨u1, atOf l (S ++ out ch (t.take k)), ?_, (((Step.refl w v).alloc _).trans HST.out).drewN _, fun h => ?_, fun _ => ⟨_, hold_grows D l S _, HH.out⟩⟩
              · rw [HBAD.out]; rfl
              · rw [HBAD.out] at h; cases h
            · have t1 : ((c.toNat : Int) == 255) = false := by rw [beq_eq_false_iff_ne]; exact u8_neq h255 rfl
              have hokn : okT ch (t.take (k + 1)) = true := by rw [HTK.out]; simp [okT, HC.out, h255]; simpa [okT] using HOK.out
              have HOKN : Hid (okT ch (t.take (k + 1)) = true) := hokn
              clear hokn h255
              by_cases h0 : c = 0
              · have t2 : ((c.toNat : Int) != 0) = false := by rw [h0]; rfl
                have HN : Hid (out ch (t.take (k + 1)) = out ch (t.take k)) := by show _ = _; rw [HTK.out, out_zero (by rw [HC.out, h0])]
                clear h0
                go_wp2_with fail
                go_quiet (fail)
                go_wp2
                refine ⟨⟨k + 1, by omega, by go_num, by rw [HN.out], by rw [HN.out], HOKN.out, by rw [HN.out]; exact HH.out, HST.out.drewN _⟩, by simp [intOf]; omega⟩
              · have t2 : ((c.toNat : Int) != 0) = true := by rw [bne_iff_ne]; exact u8_neq h0 rfl
                have HN : Hid (out ch (t.take (k + 1)) = out ch (t.take k) ++ [c]) := by show _ = _; rw [HTK.out, out_some (by rw [HC.out]; exact h0), HC.out]
                clear h0
                have hol := out_le ch (t.take k)
                have htl2 : (t.take k).length ≤ k := List.length_take_le _ _
                have HBY : Hid (∀ q : Nat, Calls Try.prog 32 #[u1, .int .i64 (atOf l (S ++ out ch (t.take k))), .string nm, .int .u8 (c.toNat : Int)] (wr.drewN q)
                    fun e w' => ∃ v', e = .returned (.tuple #[v', .int .i64 (atOf l (S ++ out ch (t.take (k + 1))))]) ∧ Holds B w' v' (hold D l (S ++ out ch (t.take (k + 1)))) ∧ Step wr u1 w' v') := by
                  intro q
                  rw [HN.out, ← List.append_assoc]
                  refine (byte_any B D l (S ++ out ch (t.take k)) u1 nm c (wr.drewN q) HL.out hn hD (by simp; omega) hBr HH.out).mono ?_
                  rintro e w' ⟨v', rfl, h1, h2⟩
                  exact ⟨v', rfl, h1, ⟨h2.os, h2.tape, h2.output, h2.size, h2.block, h2.home⟩⟩
                clear hol htl2
                go_wp2_with fail
                go_quiet (fail)
                go_wp2_with fail
                refine (HBY.out _).mono ?_
                rintro e w2 ⟨v2, rfl, h1, h2⟩
                have H1 : Hid (Holds B w2 v2 (hold D l (S ++ out ch (t.take (k + 1))))) := h1
                have H2 : Hid (Step (w.alloc (.cells #[.string s, .bool false] 45)) v w2 v2) := HST.out.trans h2
                clear h1 h2
                go_wp2
                refine ⟨⟨k + 1, by omega, by go_num, rfl, ?_, HOKN.out, H1.out, H2.out⟩, by simp [intOf]; omega⟩
                rw [HN.out]; simp
          · have hkl : k = t.length := by omega
            have E1 : Hid (t.take k = t) := by show _ = _; rw [List.take_of_length_le (by omega)]
            clear hkl
            go_wp2
            go_ret3
            have ho : okT ch t = true := by have := HOK.out; rw [E1.out] at this; exact this
            have hH := HH.out
            rw [E1.out] at hH
            refine ⟨u1, atOf l (S ++ out ch t), by rw [ho]; simp [E1.out], ((Step.refl w v).alloc _).trans HST.out, fun _ => ⟨rfl, hH⟩, fun h => ⟨_, hold_grows D l S _, hH⟩⟩
      · have hcell := HFC.out s[k]
        have hb1 : (s[k].toNat : Int) < 256 := by have := s[k].toNat_lt; omega
        have hI : (k : Int) < (s.size : Int) := by omega
        go_wp2_with fail
        go_quiet (fail)
        go_wp2
        clear hcell hb1 t1
        go_loopw [1, 2, 13, 14] (fun dv at_ j wrote wr => ∃ k : Nat, k ≤ t.length ∧ j = .int .i64 (k : Int) ∧ at_ = .int .i64 (atOf l (S ++ out ch (t.take k))) ∧ wrote = .bool (!(out ch (t.take k)).isEmpty) ∧ okT ch (t.take k) = true ∧
            Holds B wr dv (hold D l (S ++ out ch (t.take k))) ∧ Step (w.alloc (.cells #[.string s, .bool false] 45)) v wr dv) (fun _ _ j _ _ => t.length - (intOf j).toNat)
        case atStart => exact ⟨k, hk, rfl, by rw [HAT.out], by rw [HW.out], fast_ok HFA.out H255.out, HH0.out, (Step.refl _ _).drewN _⟩
        case round =>
          clear HAT HW HFA HH0 hk
          obtain ⟨k, hk, rfl, rfl, rfl, hok, hh, hst⟩ := hrel
          have HOK : Hid (okT ch (t.take k) = true) := hok
          have HH : Hid (Holds B wr u1 (hold D l (S ++ out ch (t.take k)))) := hh
          have HST : Hid (Step (w.alloc (.cells #[.string s, .bool false] 45)) v wr u1) := hst
          have he : wr.cell? ⟨w.heap.size, 0, none⟩ = some (.string s) := by
            rw [hst.cell (p := ⟨w.heap.size, 0, none⟩) (by simp) HVE.out]; simp
          have hBr : B ≤ wr.heap.size := by have := hst.size; simp at this; omega
          clear hok hh hst
          by_cases hlt : k < s.size
          · have hcell : wr.cell? ⟨fb, s[k].toNat, none⟩ = some (.int .u8 ((ch s[k]).toNat : Int)) := by
              rw [HST.out.cell (p := ⟨fb, s[k].toNat, none⟩) (by have := HF.out.lt; simp; omega) HVF.out]
              exact HFC.out s[k]
            have hb1 : (s[k].toNat : Int) < 256 := by have := s[k].toNat_lt; omega
            have hI : (k : Int) < (s.size : Int) := by omega
            have htk : t.take (k + 1) = t.take k ++ [s[k]] := by
              rw [take_snoc t k (by omega)]
              have h0 := name_at HT.out k hlt
              rw [List.getElem?_eq_getElem (by omega)] at h0
              rw [Option.some.inj h0]
            have HTK : Hid (t.take (k + 1) = t.take k ++ [s[k]]) := htk
            clear htk
            obtain ⟨c, hc⟩ : ∃ c, c = ch s[k] := ⟨_, rfl⟩
            have HC : Hid (ch s[k] = c) := hc.symm
            rw [← hc] at hcell
            clear hc
            by_cases h255 : c = 255
            · have t1 : ((c.toNat : Int) == 255) = true := by rw [h255]; rfl
              have HBAD : Hid (okT ch t = false) := okT_no HT.out hlt (by rw [HC.out, h255])
              have H255 : Hid (c = 255) := h255
              clear h255
              go_wp2_with fail
              go_quiet (fail)
              go_wp2
              go_ret3
              refine ⟨u1, atOf l (S ++ out ch (t.take k)), ?_, (((Step.refl w v).alloc _).trans HST.out).drewN _, fun h => ?_, fun _ => ⟨_, hold_grows D l S _, HH.out⟩⟩
              · rw [HBAD.out]; rfl
              · rw [HBAD.out] at h; cases h
            · have t1 : ((c.toNat : Int) == 255) = false := by rw [beq_eq_false_iff_ne]; exact u8_neq h255 rfl
              have hokn : okT ch (t.take (k + 1)) = true := by rw [HTK.out]; simp [okT, HC.out, h255]; simpa [okT] using HOK.out
              have HOKN : Hid (okT ch (t.take (k + 1)) = true) := hokn
              clear hokn h255
              by_cases h0 : c = 0
              · have t2 : ((c.toNat : Int) != 0) = false := by rw [h0]; rfl
                have HN : Hid (out ch (t.take (k + 1)) = out ch (t.take k)) := by show _ = _; rw [HTK.out, out_zero (by rw [HC.out, h0])]
                clear h0
                go_wp2_with fail
                go_quiet (fail)
                go_wp2
                refine ⟨⟨k + 1, by omega, by go_num, by rw [HN.out], by rw [HN.out], HOKN.out, by rw [HN.out]; exact HH.out, HST.out.drewN _⟩, by simp [intOf]; omega⟩
              · have t2 : ((c.toNat : Int) != 0) = true := by rw [bne_iff_ne]; exact u8_neq h0 rfl
                have HN : Hid (out ch (t.take (k + 1)) = out ch (t.take k) ++ [c]) := by show _ = _; rw [HTK.out, out_some (by rw [HC.out]; exact h0), HC.out]
                clear h0
                have hol := out_le ch (t.take k)
                have htl2 : (t.take k).length ≤ k := List.length_take_le _ _
                have HBY : Hid (∀ q : Nat, Calls Try.prog 32 #[u1, .int .i64 (atOf l (S ++ out ch (t.take k))), .string nm, .int .u8 (c.toNat : Int)] (wr.drewN q)
                    fun e w' => ∃ v', e = .returned (.tuple #[v', .int .i64 (atOf l (S ++ out ch (t.take (k + 1))))]) ∧ Holds B w' v' (hold D l (S ++ out ch (t.take (k + 1)))) ∧ Step wr u1 w' v') := by
                  intro q
                  rw [HN.out, ← List.append_assoc]
                  refine (byte_any B D l (S ++ out ch (t.take k)) u1 nm c (wr.drewN q) HL.out hn hD (by simp; omega) hBr HH.out).mono ?_
                  rintro e w' ⟨v', rfl, h1, h2⟩
                  exact ⟨v', rfl, h1, ⟨h2.os, h2.tape, h2.output, h2.size, h2.block, h2.home⟩⟩
                clear hol htl2
                go_wp2_with fail
                go_quiet (fail)
                go_wp2_with fail
                refine (HBY.out _).mono ?_
                rintro e w2 ⟨v2, rfl, h1, h2⟩
                have H1 : Hid (Holds B w2 v2 (hold D l (S ++ out ch (t.take (k + 1))))) := h1
                have H2 : Hid (Step (w.alloc (.cells #[.string s, .bool false] 45)) v w2 v2) := HST.out.trans h2
                clear h1 h2
                go_wp2
                refine ⟨⟨k + 1, by omega, by go_num, rfl, ?_, HOKN.out, H1.out, H2.out⟩, by simp [intOf]; omega⟩
                rw [HN.out]; simp
          · have hkl : k = t.length := by omega
            have E1 : Hid (t.take k = t) := by show _ = _; rw [List.take_of_length_le (by omega)]
            clear hkl
            go_wp2
            go_ret3
            have ho : okT ch t = true := by have := HOK.out; rw [E1.out] at this; exact this
            have hH := HH.out
            rw [E1.out] at hH
            refine ⟨u1, atOf l (S ++ out ch t), by rw [ho]; simp [E1.out], ((Step.refl w v).alloc _).trans HST.out, fun _ => ⟨rfl, hH⟩, fun h => ⟨_, hold_grows D l S _, hH⟩⟩
      · have hcell := HFC.out s[k]
        have hb1 : (s[k].toNat : Int) < 256 := by have := s[k].toNat_lt; omega
        have hI : (k : Int) < (s.size : Int) := by omega
        go_wp2_with fail
        go_quiet (fail)
        go_wp2
        clear hcell hb1 t1 t2
        go_loopw [1, 2, 13, 14] (fun dv at_ j wrote wr => ∃ k : Nat, k ≤ t.length ∧ j = .int .i64 (k : Int) ∧ at_ = .int .i64 (atOf l (S ++ out ch (t.take k))) ∧ wrote = .bool (!(out ch (t.take k)).isEmpty) ∧ okT ch (t.take k) = true ∧
            Holds B wr dv (hold D l (S ++ out ch (t.take k))) ∧ Step (w.alloc (.cells #[.string s, .bool false] 45)) v wr dv) (fun _ _ j _ _ => t.length - (intOf j).toNat)
        case atStart => exact ⟨k, hk, rfl, by rw [HAT.out], by rw [HW.out], fast_ok HFA.out H255.out, HH0.out, (Step.refl _ _).drewN _⟩
        case round =>
          clear HAT HW HFA HH0 hk
          obtain ⟨k, hk, rfl, rfl, rfl, hok, hh, hst⟩ := hrel
          have HOK : Hid (okT ch (t.take k) = true) := hok
          have HH : Hid (Holds B wr u1 (hold D l (S ++ out ch (t.take k)))) := hh
          have HST : Hid (Step (w.alloc (.cells #[.string s, .bool false] 45)) v wr u1) := hst
          have he : wr.cell? ⟨w.heap.size, 0, none⟩ = some (.string s) := by
            rw [hst.cell (p := ⟨w.heap.size, 0, none⟩) (by simp) HVE.out]; simp
          have hBr : B ≤ wr.heap.size := by have := hst.size; simp at this; omega
          clear hok hh hst
          by_cases hlt : k < s.size
          · have hcell : wr.cell? ⟨fb, s[k].toNat, none⟩ = some (.int .u8 ((ch s[k]).toNat : Int)) := by
              rw [HST.out.cell (p := ⟨fb, s[k].toNat, none⟩) (by have := HF.out.lt; simp; omega) HVF.out]
              exact HFC.out s[k]
            have hb1 : (s[k].toNat : Int) < 256 := by have := s[k].toNat_lt; omega
            have hI : (k : Int) < (s.size : Int) := by omega
            have htk : t.take (k + 1) = t.take k ++ [s[k]] := by
              rw [take_snoc t k (by omega)]
              have h0 := name_at HT.out k hlt
              rw [List.getElem?_eq_getElem (by omega)] at h0
              rw [Option.some.inj h0]
            have HTK : Hid (t.take (k + 1) = t.take k ++ [s[k]]) := htk
            clear htk
            obtain ⟨c, hc⟩ : ∃ c, c = ch s[k] := ⟨_, rfl⟩
            have HC : Hid (ch s[k] = c) := hc.symm
            rw [← hc] at hcell
            clear hc
            by_cases h255 : c = 255
            · have t1 : ((c.toNat : Int) == 255) = true := by rw [h255]; rfl
              have HBAD : Hid (okT ch t = false) := okT_no HT.out hlt (by rw [HC.out, h255])
              have H255 : Hid (c = 255) := h255
              clear h255
              go_wp2_with fail
              go_quiet (fail)
              go_wp2
              go_ret3
              refine ⟨u1, atOf l (S ++ out ch (t.take k)), ?_, (((Step.refl w v).alloc _).trans HST.out).drewN _, fun h => ?_, fun _ => ⟨_, hold_grows D l S _, HH.out⟩⟩
              · rw [HBAD.out]; rfl
              · rw [HBAD.out] at h; cases h
            · have t1 : ((c.toNat : Int) == 255) = false := by rw [beq_eq_false_iff_ne]; exact u8_neq h255 rfl
              have hokn : okT ch (t.take (k + 1)) = true := by rw [HTK.out]; simp [okT, HC.out, h255]; simpa [okT] using HOK.out
              have HOKN : Hid (okT ch (t.take (k + 1)) = true) := hokn
              clear hokn h255
              by_cases h0 : c = 0
              · have t2 : ((c.toNat : Int) != 0) = false := by rw [h0]; rfl
                have HN : Hid (out ch (t.take (k + 1)) = out ch (t.take k)) := by show _ = _; rw [HTK.out, out_zero (by rw [HC.out, h0])]
                clear h0
                go_wp2_with fail
                go_quiet (fail)
                go_wp2
                refine ⟨⟨k + 1, by omega, by go_num, by rw [HN.out], by rw [HN.out], HOKN.out, by rw [HN.out]; exact HH.out, HST.out.drewN _⟩, by simp [intOf]; omega⟩
              · have t2 : ((c.toNat : Int) != 0) = true := by rw [bne_iff_ne]; exact u8_neq h0 rfl
                have HN : Hid (out ch (t.take (k + 1)) = out ch (t.take k) ++ [c]) := by show _ = _; rw [HTK.out, out_some (by rw [HC.out]; exact h0), HC.out]
                clear h0
                have hol := out_le ch (t.take k)
                have htl2 : (t.take k).length ≤ k := List.length_take_le _ _
                have HBY : Hid (∀ q : Nat, Calls Try.prog 32 #[u1, .int .i64 (atOf l (S ++ out ch (t.take k))), .string nm, .int .u8 (c.toNat : Int)] (wr.drewN q)
                    fun e w' => ∃ v', e = .returned (.tuple #[v', .int .i64 (atOf l (S ++ out ch (t.take (k + 1))))]) ∧ Holds B w' v' (hold D l (S ++ out ch (t.take (k + 1)))) ∧ Step wr u1 w' v') := by
                  intro q
                  rw [HN.out, ← List.append_assoc]
                  refine (byte_any B D l (S ++ out ch (t.take k)) u1 nm c (wr.drewN q) HL.out hn hD (by simp; omega) hBr HH.out).mono ?_
                  rintro e w' ⟨v', rfl, h1, h2⟩
                  exact ⟨v', rfl, h1, ⟨h2.os, h2.tape, h2.output, h2.size, h2.block, h2.home⟩⟩
                clear hol htl2
                go_wp2_with fail
                go_quiet (fail)
                go_wp2_with fail
                refine (HBY.out _).mono ?_
                rintro e w2 ⟨v2, rfl, h1, h2⟩
                have H1 : Hid (Holds B w2 v2 (hold D l (S ++ out ch (t.take (k + 1))))) := h1
                have H2 : Hid (Step (w.alloc (.cells #[.string s, .bool false] 45)) v w2 v2) := HST.out.trans h2
                clear h1 h2
                go_wp2
                refine ⟨⟨k + 1, by omega, by go_num, rfl, ?_, HOKN.out, H1.out, H2.out⟩, by simp [intOf]; omega⟩
                rw [HN.out]; simp
          · have hkl : k = t.length := by omega
            have E1 : Hid (t.take k = t) := by show _ = _; rw [List.take_of_length_le (by omega)]
            clear hkl
            go_wp2
            go_ret3
            have ho : okT ch t = true := by have := HOK.out; rw [E1.out] at this; exact this
            have hH := HH.out
            rw [E1.out] at hH
            refine ⟨u1, atOf l (S ++ out ch t), by rw [ho]; simp [E1.out], ((Step.refl w v).alloc _).trans HST.out, fun _ => ⟨rfl, hH⟩, fun h => ⟨_, hold_grows D l S _, hH⟩⟩
end Go.Proofs.Qxb6000821a
