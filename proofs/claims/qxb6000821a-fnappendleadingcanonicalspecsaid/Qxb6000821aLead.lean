import Derived.Test.Qxb6000821aLay
import Derived.Test.Qxb6000821aLeadP
import Derived.Deep.RegionHeld3
import Derived.Deep.DeepCutAuto
import Derived.Deep.CutBlock
namespace Go.Proofs.Qxb6000821a
open Go.RowKit

/-- The loop's relation. -/
def Rel (B : Nat) (ch : UInt8 → UInt8) (asw : Bool) (l D : List UInt8) (v0 : Value) (w : World) (R : List UInt8 × Bool) (g : Nat) (at_ inf i : Value) (wr : World) : Prop :=
  ∃ (k : Nat) (S : List UInt8) (b : Bool) (v : Value), k ≤ l.length ∧ l.length + 1 ≤ g + k ∧ i = .int .i64 (k : Int) ∧ at_ = .int .i64 (atOf l S) ∧ inf = .bool b ∧ lead ch asw l g k S b = R ∧ Al l S k ∧
    Holds B wr v (hold D l S) ∧ Lay w w.heap.size v0 wr v (S.length : Int) (pre l S) (D.length : Int)

set_option maxRecDepth 100000 in
set_option maxHeartbeats 20000000 in
theorem lead_any (B fb : Nat) (ch : UInt8 → UInt8) (asw : Bool) (nm : ByteArray) (l D : List UInt8) (a0 : Option Addr) (n0 cap0 : Nat) (w : World) (hl : l = nm.data.toList) (hn : nm.size ≤ 1048576) (hD : D.length ≤ 1048576) (hB : B ≤ w.heap.size)
    (hv : Holds B w (.slice a0 n0 cap0) D) (hf : FormAt w fb ch ⟨#[46]⟩ ⟨#[91]⟩ ⟨#[93]⟩) (hvf : (Value.slice a0 n0 cap0).ownBlock ≠ some fb) (h255 : ∀ c ∈ l, c ≠ 255) (R : List UInt8 × Bool) (hR : lead ch asw l (l.length + 1) 0 [] true = R) :
    Calls Try.prog 23 #[.pointer (some ⟨fb, 0, none⟩), .slice a0 n0 cap0, .string nm, .bool asw] w fun e w' => ∃ v', e = .returned (.tuple #[v', .int .i64 (R.1.length : Int), .bool (pre l R.1), .bool R.2]) ∧
      Holds B w' v' (hold D l R.1) ∧ Step w (.slice a0 n0 cap0) w' v' := by
  have hn0 : n0 = D.length := by
    obtain ⟨a, c, e, _⟩ := hv.slice
    injection e
  subst hn0
  have hll : l.length = nm.size := by rw [hl]; simp
  have HL : Hid (l = nm.data.toList) := hl
  have HF : Hid (FormAt w fb ch ⟨#[46]⟩ ⟨#[91]⟩ ⟨#[93]⟩) := hf
  have HV0 : Hid (Holds B w (.slice a0 D.length cap0) D) := hv
  have HVF : Hid ((Value.slice a0 D.length cap0).ownBlock ≠ some fb) := hvf
  have H255 : Hid (∀ c ∈ l, c ≠ 255) := h255
  have HR : Hid (lead ch asw l (l.length + 1) 0 [] true = R) := hR
  have hfb := hf.lt
  clear hl hf hv hvf h255 hR
  obtain ⟨d, hd⟩ : ∃ d, d = D.length := ⟨_, rfl⟩
  have HD : Hid (d = D.length) := hd
  simp only [← hd] at HVF ⊢
  clear hd
  go_enter Try.func23, Try.ntmps23
  go_wp2
  go_loopg [13, 15, 16] (l.length + 1) (fun g at_ inf i wr => Rel B ch asw l D (.slice a0 d cap0) w R g at_ inf i wr)
  case atStart =>
    have h0 := HV0.out
    rw [← HD.out] at h0
    refine ⟨0, [], true, .slice a0 d cap0, Nat.zero_le _, Nat.le_refl _, rfl, by rw [atOf_yes (pre_nil l)]; rfl, rfl, HR.out, al_start l, ?_, ?_⟩
    · rw [hold_yes (pre_nil l)]
      exact (((h0.alloc _).alloc _).alloc _).alloc _
    · rw [pre_nil, ← HD.out]
      exact lay_start w (.slice a0 d cap0) d (fun g hg => (h0.base g hg).2)
  case round =>
    obtain ⟨k, S, b, v, hk, hg, rfl, rfl, rfl, hlead, hal, hh, hlay⟩ := hrel
    have HLE : Hid (lead ch asw l gk k S b = R) := hlead
    have HAL : Hid (Al l S k) := hal
    have HH : Hid (Holds B wr v (hold D l S)) := hh
    have HLAY : Hid (Lay w w.heap.size (.slice a0 d cap0) wr v (S.length : Int) (pre l S) (D.length : Int)) := hlay
    have hsl := hal.1
    clear hlead hal hh hlay HR
    cases hnx : nextE l k with
    | none =>
      have HNF : Hid (∀ w : World, Calls Try.prog 28 #[.string nm, .int .i64 (k : Int)] w fun e w' => e = .returned (.tuple #[.agg #[.string ⟨#[]⟩, .bool false], .int .i64 0, .bool false]) ∧ Below w.heap.size w w') :=
        fun w => next_fail nm l k w HL.out hn hnx
      have HRR : Hid (R = (S, false)) := by
        show _ = _
        rw [← HLE.out]
        cases gk with
        | zero => rfl
        | succ f => simp only [lead, hnx]
      clear hnx HLE
      go_wp2_with fail
      refine (HNF.out _).mono ?_
      rintro e w1 ⟨rfl, hB1⟩
      have HL1 : Hid (Lay w w.heap.size (.slice a0 d cap0) w1 v (S.length : Int) (pre l S) (D.length : Int)) := HLAY.out.below hB1
      have HH1 : Hid (Holds B w1 v (hold D l S)) := HH.out.below hB1
      clear hB1 HLAY HH
      go_wp2_with fail
      have hl2 := HL1.out.alloc (.cells #[.string ⟨#[]⟩, .bool false] 45)
      have hh2 := HH1.out.alloc (.cells #[.string ⟨#[]⟩, .bool false] 45)
      generalize w1.alloc (.cells #[.string ⟨#[]⟩, .bool false] 45) = W at hl2 hh2 ⊢
      refine (cut_lay B D l S (hold D l S) false w W w.heap.size _ v hD (by omega) hl2 hh2 (List.prefix_refl _)).mono ?_
      rintro e w2 ⟨a, m, c, q, rfl, rfl, h1, h2⟩
      have HE : Hid (∀ q, _) := fun q => lay_end hl2 h1 h2 q
      have c9 := hl2.c9
      have z9 := hl2.z9
      have c10 := hl2.c10
      have z10 := hl2.z10
      clear hl2 hh2 h1 h2 HL1 HH1
      go_wp2
      refine bodyPost_ret (v := .tuple #[.slice a m c, .int .i64 (S.length : Int), .bool (pre l S), .bool false]) (by simp [results, Try.results23, go_sem, c9, c10]) rfl ⟨.slice a m c, ?_, ?_, ?_⟩
      · rw [HRR.out]
      · rw [HRR.out]; exact (HE.out _).1
      · exact (HE.out _).2
    | some el =>
      obtain ⟨t, br, nx⟩ := el
      obtain ⟨hkn, hnl, -, -, hnxe, -, hbk⟩ := nextE_facts hnx
      have HNS : Hid (∀ w : World, Calls Try.prog 28 #[.string nm, .int .i64 (k : Int)] w fun e w' => ∃ s : ByteArray, e = .returned (.tuple #[.agg #[.string s, .bool br], .int .i64 (nx : Int), .bool true]) ∧ t = s.data.toList ∧ Below w.heap.size w w') :=
        fun w => next_some nm l k t br nx w HL.out hn hnx
      have HNX : Hid (nextE l k = some (t, br, nx)) := hnx
      have HNL : Hid (nx = k + (opn k br ++ t ++ cls br).length) := hnxe
      clear hnx hnxe
      go_wp2_with fail
      refine (HNS.out _).mono ?_
      rintro e w1 ⟨s, rfl, hts, hB1⟩
      have HTS : Hid (t = s.data.toList) := hts
      have HM : Hid (Mid B w (.slice a0 d cap0) l D w1.heap.size s br S (hold D l S) v (w1.alloc (.cells #[.string s, .bool br] 45))) :=
        ⟨(HLAY.out.below hB1).alloc _, (HH.out.below hB1).alloc _, by show (w1.heap.push _)[w1.heap.size]? = _; simp, by have := HLAY.out.size; have := hB1.size; omega⟩
      clear hts hB1 HLAY HH HNS
      go_upto_block 2 with fail
      generalize w1.alloc (.cells #[.string s, .bool br] 45) = W at HM ⊢
      generalize w1.heap.size = eb at HM ⊢
      clear w1
      obtain ⟨S1, hS1⟩ : ∃ S1, S1 = S ++ opn k br := ⟨_, rfl⟩
      have HS1 : Hid (S1 = S ++ opn k br) := hS1
      clear hS1
      go_cut [13] (fun at_ wc => ∃ v1, at_ = .int .i64 (atOf l S1) ∧ Mid B w (.slice a0 d cap0) l D eb s br S (hold D l S1) v1 wc)
      case first =>
        have e1 := HM.out.e1
        cases br with
        | true =>
          have hk0 := hbk rfl
          have HO : Hid (opn k true = [91]) := rfl
          rw [HO.out] at HS1
          have HC : Hid (∀ x : ByteArray, x = ⟨#[91]⟩ → _) := fun x hx => mid_string B fb ch nm l D w (.slice a0 d cap0) eb s true S S v W x [91] HL.out (by rw [hx]) hn hD (by simp; omega) hB HM.out HF.out HVF.out
          have hfW := HM.out.lay.form HF.out hfb HVF.out
          have c5 := HM.out.lay.c5
          have fo := hfW.open_
          clear hfW HM
          go_upto_region 11 with fail
          go_region_with (first | (go_at_call 29; refine (HC.out _ rfl).mono ?_; rintro e w2 ⟨a, m, c, rfl, ⟨g1, g2, g3, g4, g5, g6⟩, HM2⟩))
          all_goals
            go_wp2_with fail
            go_meet
            exact ⟨.slice a m c, by rw [HS1.out], by rw [HS1.out]; exact HM2.out⟩
        | false =>
          by_cases hk0 : 0 < k
          · have HO : Hid (opn k false = [46]) := by show _ = _; simp [opn, hk0]
            rw [HO.out] at HS1
            have HC : Hid (∀ x : ByteArray, x = ⟨#[46]⟩ → _) := fun x hx => mid_string B fb ch nm l D w (.slice a0 d cap0) eb s false S S v W x [46] HL.out (by rw [hx]) hn hD (by simp; omega) hB HM.out HF.out HVF.out
            have hfW := HM.out.lay.form HF.out hfb HVF.out
            have c5 := HM.out.lay.c5
            have fo := hfW.sep
            clear hfW HM
            go_upto_region 13 with fail
            go_region_with (first | (go_at_call 29; refine (HC.out _ rfl).mono ?_; rintro e w2 ⟨a, m, c, rfl, ⟨g1, g2, g3, g4, g5, g6⟩, HM2⟩))
            all_goals
              go_wp2_with fail
              go_meet
              exact ⟨.slice a m c, by rw [HS1.out], by rw [HS1.out]; exact HM2.out⟩
          · have HO : Hid (opn k false = []) := by show _ = _; simp [opn, hk0]
            rw [HO.out, List.append_nil] at HS1
            go_wp2_with fail
            go_meet
            exact ⟨v, by rw [HS1.out], by rw [HS1.out]; exact HM.out⟩
      case rest =>
        obtain ⟨v1, rfl, hm1⟩ := hcut
        clear HM
        obtain ⟨a1, c1, rfl, _⟩ := hm1.holds.slice
        have HM1 : Hid (Mid B w (.slice a0 d cap0) l D eb s br S (hold D l S1) (.slice a1 (hold D l S1).length c1) wc) := hm1
        have hol := hold_le D l S1
        have hs1 : S1.length ≤ k + 1 := by
          rw [HS1.out, List.length_append]
          have : (opn k br).length ≤ 1 := by unfold opn; split <;> (try split) <;> simp
          omega
        have htl : t.length ≤ l.length := by have h := HNL.out; simp at h; omega
        have hts : t.length = s.size := by rw [HTS.out]; simp
        obtain ⟨m1, hm1e⟩ : ∃ m1, m1 = (hold D l S1).length := ⟨_, rfl⟩
        have HM1E : Hid (m1 = (hold D l S1).length) := hm1e
        rw [← hm1e] at HM1 hol
        simp only [← hm1e] at hm1 ⊢
        have c5 := hm1.lay.c5
        have z5 := hm1.lay.z5
        have e0 := hm1.e0
        have e1 := hm1.e1
        clear hm1 hm1e
        cases hok : elOk ch t br with
        | true =>
          have HTX : Hid (Calls Try.prog 30 #[.pointer (some ⟨fb, 0, none⟩), .slice a1 m1 c1, .int .i64 (atOf l S1), .string nm, .agg #[.string s, .bool br]] wc _) :=
            mid_text_ok B fb ch nm l D w (.slice a0 d cap0) eb s br S S1 (.slice a1 m1 c1) wc t HL.out HTS.out hn (by omega) hD (by omega) hB HM1.out HF.out HVF.out
              (fun hb hp => by rw [HS1.out] at hp ⊢; have h := al_pre HNX.out HAL.out hp; rw [hb] at h ⊢; simpa [cls] using h) (fun c hc => H255.out c (next_mem HNX.out hc)) hok
          go_wp2_with fail
          refine HTX.out.mono ?_
          rintro e w2 ⟨a2, m2, c2, rfl, ⟨g1, g2⟩, HM2⟩
          obtain ⟨T, hT⟩ : ∃ T, T = elOut ch t br := ⟨_, rfl⟩
          rw [← hT] at HM2 ⊢
          have HRES : Hid (∃ f, gk = f + 1 ∧ R = if nx = l.length then (S1 ++ T ++ cls br, b) else lead ch asw l f nx (S1 ++ T ++ cls br) b) := by
            cases gk with
            | zero => omega
            | succ f => exact ⟨f, rfl, by rw [← HLE.out, HS1.out, hT]; simp only [lead, HNX.out, hok, if_true]⟩
          have HALN : Hid (Al l (S1 ++ T ++ cls br) nx) := by rw [HS1.out, hT]; exact al_next HNX.out HAL.out _ (elOut_T ch t br)
          have hTl : T.length ≤ t.length := by rw [hT]; exact elOut_le ch t br
          clear hT HLE HTX c5 z5 e0 e1 hok
          go_upto_if 82 with fail
          obtain ⟨a3, rfl⟩ : ∃ a3, a3 = a2 := ⟨_, rfl⟩
          obtain ⟨m3, rfl⟩ : ∃ m3, m3 = m2 := ⟨_, rfl⟩
          obtain ⟨c3, rfl⟩ : ∃ c3, c3 = c2 := ⟨_, rfl⟩
          generalize w2.setCell ⟨w.heap.size, 0, none⟩ (.slice a3 m3 c3) = W3 at HM2 ⊢
          have HM3 := HM2
          clear HM2 g1 g2 w2 HM1 HM1E

          obtain ⟨S3, hS3⟩ : ∃ S3, S3 = S1 ++ T ++ cls br := ⟨_, rfl⟩
          have HS3 : Hid (S3 = S1 ++ T ++ cls br) := hS3
          rw [← hS3] at HRES HALN
          have hl3 := HALN.out.1
          clear hS3
          have e1 := HM3.out.e1
          go_upto_if 103 with fail
          go_cut [13] (fun at_ wc => ∃ a4 m4 c4, at_ = .int .i64 (atOf l S3) ∧ Mid B w (.slice a0 d cap0) l D eb s br S (hold D l S3) (.slice a4 m4 c4) wc)
          case first =>
            cases br with
            | true =>
              have HO : Hid (cls true = [93]) := rfl
              rw [HO.out] at HS3
              have HC : Hid (∀ x : ByteArray, x = ⟨#[93]⟩ → _) := fun x hx => mid_string B fb ch nm l D w (.slice a0 d cap0) eb s true S (S1 ++ T) (.slice a3 m3 c3) W3 x [93] HL.out (by rw [hx]) hn hD (by simp; omega) hB HM3.out HF.out HVF.out
              have hfW := HM3.out.lay.form HF.out hfb HVF.out
              have c5 := HM3.out.lay.c5
              have fo := hfW.close
              clear hfW HM3
              go_upto_region 22 with fail
              go_region_with (first | (go_at_call 29; refine (HC.out _ rfl).mono ?_; rintro e w2 ⟨a, m, c, rfl, ⟨g1, g2, g3, g4, g5, g6⟩, HM4⟩))
              all_goals
                go_wp2_with fail
                go_meet
                exact ⟨a, m, c, by rw [HS3.out, List.append_assoc], by rw [HS3.out]; exact HM4.out⟩
            | false =>
              have HO : Hid (cls false = []) := rfl
              rw [HO.out, List.append_nil] at HS3
              go_wp2_with fail
              go_meet
              exact ⟨a3, m3, c3, by rw [HS3.out], by rw [HS3.out]; exact HM3.out⟩
          case rest =>
            obtain ⟨a4, m4, c4, rfl, hm4⟩ := hcut
            clear HM3 e1
            have HM4 : Hid (Mid B w (.slice a0 d cap0) l D eb s br S (hold D l S3) (.slice a4 m4 c4) wc) := hm4
            have c5 := hm4.lay.c5
            have c9 := hm4.lay.c9
            have z9 := hm4.lay.z9
            have c10 := hm4.lay.c10
            have z10 := hm4.lay.z10
            have c12 := hm4.lay.c12
            have hm4e : m4 = (hold D l S3).length := by
              obtain ⟨a, c, e, _⟩ := hm4.holds.slice
              injection e
            have HM4E : Hid (m4 = (hold D l S3).length) := hm4e
            clear hm4 hm4e
            obtain ⟨f, rfl, hR⟩ := HRES.out
            have HLF : Hid (Lay w w.heap.size (.slice a0 d cap0) ((wc.setCell ⟨w.heap.size + 1 + 1, 0, none⟩ (.bool (pre l S3))).setCell ⟨w.heap.size + 1, 0, none⟩ (.int .i64 (S3.length : Int))) (.slice a4 m4 c4) (S3.length : Int) (pre l S3) (D.length : Int)) := (HM4.out.lay.setS _).setN _
            have hne1 := HM4.out.lay.ne (k := w.heap.size + 1) (by omega) (by omega)
            have hne2 := HM4.out.lay.ne (k := w.heap.size + 1 + 1) (by omega) (by omega)
            cases hp : pre l S3 with
            | true =>
              rw [hp] at HLF
              rw [atOf_yes hp]
              have HHF : Hid (Holds B ((wc.setCell ⟨w.heap.size + 1 + 1, 0, none⟩ (.bool true)).setCell ⟨w.heap.size + 1, 0, none⟩ (.int .i64 (S3.length : Int))) (.slice a4 m4 c4) (hold D l S3)) := (HM4.out.holds.setBox hne2 _).setBox hne1 _
              clear HM4 HM4E hne1 hne2
              have HP : Hid (pre l S3 = true) := hp
              clear hp
              have hn3 : S3.length ≤ 1048576 := by omega
              by_cases hend : nx = l.length
              · have t1 : ((nx : Int) == (nm.size : Int)) = true := by rw [beq_iff_eq]; omega
                have HRR : Hid (R = (S3, b)) := by show _ = _; rw [hR, if_pos hend]
                clear hend hR
                go_wp2_with fail
                generalize (wc.setCell ⟨w.heap.size + 1 + 1, 0, none⟩ (.bool true)).setCell ⟨w.heap.size + 1, 0, none⟩ (.int .i64 (S3.length : Int)) = Wf at HLF HHF ⊢
                refine (cut_lay B D l S3 (hold D l S3) b w Wf w.heap.size _ (.slice a4 m4 c4) hD (by omega) (by rw [HP.out]; exact HLF.out) HHF.out (List.prefix_refl _)).mono ?_
                rintro e w2 ⟨a, m, c, q, rfl, rfl, h1, h2⟩
                have hlf : Lay w w.heap.size (.slice a0 d cap0) Wf (.slice a4 m4 c4) (S3.length : Int) (pre l S3) (D.length : Int) := by rw [HP.out]; exact HLF.out
                have HE : Hid (∀ q, _) := fun q => lay_end hlf h1 h2 q
                have c9 := hlf.c9
                have z9 := hlf.z9
                have c10 := hlf.c10
                have z10 := hlf.z10
                clear hlf h1 h2 HLF HHF
                go_wp2
                refine bodyPost_ret (v := .tuple #[.slice a m c, .int .i64 (S3.length : Int), .bool (pre l S3), .bool b]) (by simp [results, Try.results23, go_sem, c9, c10]) rfl ⟨.slice a m c, ?_, ?_, ?_⟩
                · rw [HRR.out]
                · rw [HRR.out]; exact (HE.out _).1
                · exact (HE.out _).2
              · have t1 : ((nx : Int) == (nm.size : Int)) = false := by rw [beq_eq_false_iff_ne]; omega
                have HRR : Hid (lead ch asw l f nx S3 b = R) := by show _ = _; rw [hR, if_neg hend]
                clear hend hR
                go_wp2
                go_roundg f
                case measure => omega
                case rel => exact ⟨nx, S3, b, .slice a4 m4 c4, hnl, by omega, rfl, by rw [atOf_yes HP.out], rfl, HRR.out, HALN.out, HHF.out, by rw [HP.out]; exact HLF.out⟩
            | false =>
              rw [hp] at HLF
              rw [atOf_no hp]
              have HHF : Hid (Holds B ((wc.setCell ⟨w.heap.size + 1 + 1, 0, none⟩ (.bool false)).setCell ⟨w.heap.size + 1, 0, none⟩ (.int .i64 (S3.length : Int))) (.slice a4 m4 c4) (hold D l S3)) := (HM4.out.holds.setBox hne2 _).setBox hne1 _
              have hme : m4 = D.length + S3.length := by rw [HM4E.out, hold_no hp]; simp
              clear HM4 HM4E hne1 hne2
              subst hme
              have hsub : (D.length : Int) + (S3.length : Int) - (D.length : Int) = (S3.length : Int) := by omega
              have HP : Hid (pre l S3 = false) := hp
              clear hp
              have hn3 : S3.length ≤ 1048576 := by omega
              by_cases hend : nx = l.length
              · have t1 : ((nx : Int) == (nm.size : Int)) = true := by rw [beq_iff_eq]; omega
                have HRR : Hid (R = (S3, b)) := by show _ = _; rw [hR, if_pos hend]
                clear hend hR
                go_wp2_with fail
                generalize (wc.setCell ⟨w.heap.size + 1 + 1, 0, none⟩ (.bool false)).setCell ⟨w.heap.size + 1, 0, none⟩ (.int .i64 (S3.length : Int)) = Wf at HLF HHF ⊢
                refine (cut_lay B D l S3 (hold D l S3) b w Wf w.heap.size _ (.slice a4 (D.length + S3.length) c4) hD (by omega) (by rw [HP.out]; exact HLF.out) HHF.out (List.prefix_refl _)).mono ?_
                rintro e w2 ⟨a, m, c, q, rfl, rfl, h1, h2⟩
                have hlf : Lay w w.heap.size (.slice a0 d cap0) Wf (.slice a4 (D.length + S3.length) c4) (S3.length : Int) (pre l S3) (D.length : Int) := by rw [HP.out]; exact HLF.out
                have HE : Hid (∀ q, _) := fun q => lay_end hlf h1 h2 q
                have c9 := hlf.c9
                have z9 := hlf.z9
                have c10 := hlf.c10
                have z10 := hlf.z10
                clear hlf h1 h2 HLF HHF
                go_wp2
                refine bodyPost_ret (v := .tuple #[.slice a m c, .int .i64 (S3.length : Int), .bool (pre l S3), .bool b]) (by simp [results, Try.results23, go_sem, c9, c10]) rfl ⟨.slice a m c, ?_, ?_, ?_⟩
                · rw [HRR.out]
                · rw [HRR.out]; exact (HE.out _).1
                · exact (HE.out _).2
              · have t1 : ((nx : Int) == (nm.size : Int)) = false := by rw [beq_eq_false_iff_ne]; omega
                have HRR : Hid (lead ch asw l f nx S3 b = R) := by show _ = _; rw [hR, if_neg hend]
                clear hend hR
                go_wp2
                go_roundg f
                case measure => omega
                case rel => exact ⟨nx, S3, b, .slice a4 (D.length + S3.length) c4, hnl, by omega, rfl, by rw [atOf_no HP.out], rfl, HRR.out, HALN.out, HHF.out, by rw [HP.out]; exact HLF.out⟩
        | false =>
          have HTX : Hid (Calls Try.prog 30 #[.pointer (some ⟨fb, 0, none⟩), .slice a1 m1 c1, .int .i64 (atOf l S1), .string nm, .agg #[.string s, .bool br]] wc _) :=
            mid_text_no B fb ch nm l D w (.slice a0 d cap0) eb s br S S1 (.slice a1 m1 c1) wc t HL.out HTS.out hn (by omega) hD (by omega) hB HM1.out HF.out HVF.out
              (fun hb hp => by rw [HS1.out] at hp ⊢; have h := al_pre HNX.out HAL.out hp; rw [hb] at h ⊢; simpa [cls] using h) (fun c hc => H255.out c (next_mem HNX.out hc)) hok
          have HOK : Hid (elOk ch t br = false) := hok
          clear hok
          go_wp2_with fail
          refine HTX.out.mono ?_
          rintro e w2 ⟨a2, m2, c2, at2, rfl, ⟨g1, g2⟩, HM2⟩
          clear HTX
          go_upto_if 82 with fail
          generalize w2.setCell ⟨w.heap.size, 0, none⟩ (.slice a2 m2 c2) = W2 at HM2 ⊢
          clear g1 g2 w2 c5 z5 e0 e1 HM1
          obtain ⟨Y, hY, hm2⟩ := HM2.out
          cases asw with
          | false =>
            have HRR : Hid (R = (S, false)) := by
              show _ = _
              rw [← HLE.out]
              cases gk with
              | zero => rfl
              | succ f => simp only [lead, HNX.out, HOK.out, Bool.false_eq_true, if_false]
            have HLY : Hid (Lay w w.heap.size (.slice a0 d cap0) W2 (.slice a2 m2 c2) (S.length : Int) (pre l S) (D.length : Int)) := hm2.lay
            have HHY : Hid (Holds B W2 (.slice a2 m2 c2) Y) := hm2.holds
            have HYP : Hid (hold D l S <+: Y) := by
              have h := hold_grows D l S (opn k br)
              rw [← HS1.out] at h
              exact h.trans hY
            clear hY hm2 HM2 HLE HM1E
            go_wp2_with fail
            refine (cut_lay B D l S Y false w W2 w.heap.size _ (.slice a2 m2 c2) hD (by omega) HLY.out HHY.out HYP.out).mono ?_
            rintro e w3 ⟨a, m, c, q, rfl, rfl, h1, h2⟩
            have hlf := HLY.out
            have HE : Hid (∀ q, _) := fun q => lay_end hlf h1 h2 q
            have c9 := hlf.c9
            have z9 := hlf.z9
            have c10 := hlf.c10
            have z10 := hlf.z10
            clear hlf h1 h2 HLY HHY HYP
            go_wp2
            refine bodyPost_ret (v := .tuple #[.slice a m c, .int .i64 (S.length : Int), .bool (pre l S), .bool false]) (by simp [results, Try.results23, go_sem, c9, c10]) rfl ⟨.slice a m c, ?_, ?_, ?_⟩
            · rw [HRR.out]
            · rw [HRR.out]; exact (HE.out _).1
            · exact (HE.out _).2
          | true =>
            go_cut [13, 15] (fun at_ inf wc => ∃ a3 m3 c3, at_ = .int .i64 (atOf l (S1 ++ t)) ∧ inf = .bool false ∧ Mid B w (.slice a0 d cap0) l D eb s br S (hold D l (S1 ++ t)) (.slice a3 m3 c3) wc)
            case first =>
              rcases hm2.holds.shape with ⟨hv2, hY0⟩ | ⟨g, cap, hv2, hcap⟩
              · subst hY0
                have hS0 : hold D l S1 = [] := List.prefix_nil.1 hY
                have hm10 : m1 = 0 := by rw [HM1E.out, hS0]; rfl
                injection hv2 with h1 h2 h3
                subst h1 h2 h3 hm10
                have hu : Holds B W2 (.slice none 0 0) (hold D l S1) := by rw [hS0]; exact hm2.holds
                clear hS0 HM1E
                have HC : Hid (∀ x : ByteArray, x = s → _) := fun x hx => mid_cutstr B nm l D w (.slice a0 d cap0) eb s br S S1 [] (.slice none 0 0) (.slice none 0 0) W2 t HL.out HTS.out hn hD (by omega) hB hm2 hu rfl
                have c5 := hm2.lay.c5
                have e0 := hm2.e0
                clear hm2 hY HM2
                go_upto_region 19 with fail
                go_region_with (first | (go_at_call 29; refine (HC.out s rfl).mono ?_; rintro e w3 ⟨a, m, c, rfl, ⟨g1, g2, g3⟩, HM4⟩))
                all_goals
                  go_wp2_with fail
                  go_meet
                  exact ⟨a, m, c, rfl, rfl, HM4.out⟩
              · injection hv2 with h1 h2 h3
                subst h1 h2 h3
                have hu : Holds B W2 (.slice (some ⟨g, 0, none⟩) m1 c2) (hold D l S1) := by rw [HM1E.out]; exact hm2.holds.cut hY
                have hmc : m1 ≤ c2 := by have := hY.length_le; rw [← HM1E.out] at this; omega
                have hmc2 : (m1 : Int) ≤ (c2 : Int) := by omega
                clear HM1E hcap
                have HC : Hid (∀ x : ByteArray, x = s → _) := fun x hx => mid_cutstr B nm l D w (.slice a0 d cap0) eb s br S S1 Y (.slice (some ⟨g, 0, none⟩) Y.length c2) (.slice (some ⟨g, 0, none⟩) m1 c2) W2 t HL.out HTS.out hn hD (by omega) hB hm2 hu rfl
                have c5 := hm2.lay.c5
                have e0 := hm2.e0
                clear hm2 hY HM2
                go_upto_region 19 with fail
                go_region_with (first | (go_at_call 29; refine (HC.out s rfl).mono ?_; rintro e w3 ⟨a, m, c, rfl, ⟨g1, g2, g3⟩, HM4⟩))
                all_goals
                  go_wp2_with fail
                  go_meet
                  exact ⟨a, m, c, rfl, rfl, HM4.out⟩
            case rest =>
              obtain ⟨a3, m3, c3, rfl, rfl, hm3⟩ := hcut
              have HRES : Hid (∃ f, gk = f + 1 ∧ R = if nx = l.length then (S1 ++ t ++ cls br, false) else lead ch true l f nx (S1 ++ t ++ cls br) false) := by
                cases gk with
                | zero => omega
                | succ f => exact ⟨f, rfl, by rw [← HLE.out, HS1.out]; simp only [lead, HNX.out, HOK.out, Bool.false_eq_true, if_false, if_true]⟩
              have HALN : Hid (Al l (S1 ++ t ++ cls br) nx) := by rw [HS1.out]; exact al_next HNX.out HAL.out _ (.inl rfl)
              clear hY hm2 HM2 W2 HLE HM1E
              have HM3 : Hid (Mid B w (.slice a0 d cap0) l D eb s br S (hold D l (S1 ++ t)) (.slice a3 m3 c3) wc) := hm3
              clear hm3
              obtain ⟨W3, hW3⟩ : ∃ W3, W3 = wc := ⟨_, rfl⟩
              rw [← hW3] at HM3 ⊢
              clear hW3 wc
              obtain ⟨S3, hS3⟩ : ∃ S3, S3 = S1 ++ t ++ cls br := ⟨_, rfl⟩
              have HS3 : Hid (S3 = S1 ++ t ++ cls br) := hS3
              rw [← hS3] at HRES HALN
              have hl3 := HALN.out.1
              clear hS3
              have e1 := HM3.out.e1
              go_upto_if 103 with fail
              go_cut [13] (fun at_ wc => ∃ a4 m4 c4, at_ = .int .i64 (atOf l S3) ∧ Mid B w (.slice a0 d cap0) l D eb s br S (hold D l S3) (.slice a4 m4 c4) wc)
              case first =>
                cases br with
                | true =>
                  have HO : Hid (cls true = [93]) := rfl
                  rw [HO.out] at HS3
                  have HC : Hid (∀ x : ByteArray, x = ⟨#[93]⟩ → _) := fun x hx => mid_string B fb ch nm l D w (.slice a0 d cap0) eb s true S (S1 ++ t) (.slice a3 m3 c3) W3 x [93] HL.out (by rw [hx]) hn hD (by simp; omega) hB HM3.out HF.out HVF.out
                  have hfW := HM3.out.lay.form HF.out hfb HVF.out
                  have c5 := HM3.out.lay.c5
                  have fo := hfW.close
                  clear hfW HM3
                  go_upto_region 22 with fail
                  go_region_with (first | (go_at_call 29; refine (HC.out _ rfl).mono ?_; rintro e w2 ⟨a, m, c, rfl, ⟨g1, g2, g3, g4, g5, g6⟩, HM4⟩))
                  all_goals
                    go_wp2_with fail
                    go_meet
                    exact ⟨a, m, c, by rw [HS3.out, List.append_assoc], by rw [HS3.out]; exact HM4.out⟩
                | false =>
                  have HO : Hid (cls false = []) := rfl
                  rw [HO.out, List.append_nil] at HS3
                  go_wp2_with fail
                  go_meet
                  exact ⟨a3, m3, c3, by rw [HS3.out], by rw [HS3.out]; exact HM3.out⟩
              case rest =>
                obtain ⟨a4, m4, c4, rfl, hm4⟩ := hcut
                clear HM3 e1
                have HM4 : Hid (Mid B w (.slice a0 d cap0) l D eb s br S (hold D l S3) (.slice a4 m4 c4) wc) := hm4
                have c5 := hm4.lay.c5
                have c9 := hm4.lay.c9
                have z9 := hm4.lay.z9
                have c10 := hm4.lay.c10
                have z10 := hm4.lay.z10
                have c12 := hm4.lay.c12
                have hm4e : m4 = (hold D l S3).length := by
                  obtain ⟨a, c, e, _⟩ := hm4.holds.slice
                  injection e
                have HM4E : Hid (m4 = (hold D l S3).length) := hm4e
                clear hm4 hm4e
                obtain ⟨f, rfl, hR⟩ := HRES.out
                have HLF : Hid (Lay w w.heap.size (.slice a0 d cap0) ((wc.setCell ⟨w.heap.size + 1 + 1, 0, none⟩ (.bool (pre l S3))).setCell ⟨w.heap.size + 1, 0, none⟩ (.int .i64 (S3.length : Int))) (.slice a4 m4 c4) (S3.length : Int) (pre l S3) (D.length : Int)) := (HM4.out.lay.setS _).setN _
                have hne1 := HM4.out.lay.ne (k := w.heap.size + 1) (by omega) (by omega)
                have hne2 := HM4.out.lay.ne (k := w.heap.size + 1 + 1) (by omega) (by omega)
                cases hp : pre l S3 with
                | true =>
                  rw [hp] at HLF
                  rw [atOf_yes hp]
                  have HHF : Hid (Holds B ((wc.setCell ⟨w.heap.size + 1 + 1, 0, none⟩ (.bool true)).setCell ⟨w.heap.size + 1, 0, none⟩ (.int .i64 (S3.length : Int))) (.slice a4 m4 c4) (hold D l S3)) := (HM4.out.holds.setBox hne2 _).setBox hne1 _
                  clear HM4 HM4E hne1 hne2
                  have HP : Hid (pre l S3 = true) := hp
                  clear hp
                  have hn3 : S3.length ≤ 1048576 := by omega
                  by_cases hend : nx = l.length
                  · have t1 : ((nx : Int) == (nm.size : Int)) = true := by rw [beq_iff_eq]; omega
                    have HRR : Hid (R = (S3, false)) := by show _ = _; rw [hR, if_pos hend]
                    clear hend hR
                    go_wp2_with fail
                    generalize (wc.setCell ⟨w.heap.size + 1 + 1, 0, none⟩ (.bool true)).setCell ⟨w.heap.size + 1, 0, none⟩ (.int .i64 (S3.length : Int)) = Wf at HLF HHF ⊢
                    refine (cut_lay B D l S3 (hold D l S3) false w Wf w.heap.size _ (.slice a4 m4 c4) hD (by omega) (by rw [HP.out]; exact HLF.out) HHF.out (List.prefix_refl _)).mono ?_
                    rintro e w2 ⟨a, m, c, q, rfl, rfl, h1, h2⟩
                    have hlf : Lay w w.heap.size (.slice a0 d cap0) Wf (.slice a4 m4 c4) (S3.length : Int) (pre l S3) (D.length : Int) := by rw [HP.out]; exact HLF.out
                    have HE : Hid (∀ q, _) := fun q => lay_end hlf h1 h2 q
                    have c9 := hlf.c9
                    have z9 := hlf.z9
                    have c10 := hlf.c10
                    have z10 := hlf.z10
                    clear hlf h1 h2 HLF HHF
                    go_wp2
                    refine bodyPost_ret (v := .tuple #[.slice a m c, .int .i64 (S3.length : Int), .bool (pre l S3), .bool false]) (by simp [results, Try.results23, go_sem, c9, c10]) rfl ⟨.slice a m c, ?_, ?_, ?_⟩
                    · rw [HRR.out]
                    · rw [HRR.out]; exact (HE.out _).1
                    · exact (HE.out _).2
                  · have t1 : ((nx : Int) == (nm.size : Int)) = false := by rw [beq_eq_false_iff_ne]; omega
                    have HRR : Hid (lead ch true l f nx S3 false = R) := by show _ = _; rw [hR, if_neg hend]
                    clear hend hR
                    go_wp2
                    go_roundg f
                    case measure => omega
                    case rel => exact ⟨nx, S3, false, .slice a4 m4 c4, hnl, by omega, rfl, by rw [atOf_yes HP.out], rfl, HRR.out, HALN.out, HHF.out, by rw [HP.out]; exact HLF.out⟩
                | false =>
                  rw [hp] at HLF
                  rw [atOf_no hp]
                  have HHF : Hid (Holds B ((wc.setCell ⟨w.heap.size + 1 + 1, 0, none⟩ (.bool false)).setCell ⟨w.heap.size + 1, 0, none⟩ (.int .i64 (S3.length : Int))) (.slice a4 m4 c4) (hold D l S3)) := (HM4.out.holds.setBox hne2 _).setBox hne1 _
                  have hme : m4 = D.length + S3.length := by rw [HM4E.out, hold_no hp]; simp
                  clear HM4 HM4E hne1 hne2
                  subst hme
                  have hsub : (D.length : Int) + (S3.length : Int) - (D.length : Int) = (S3.length : Int) := by omega
                  have HP : Hid (pre l S3 = false) := hp
                  clear hp
                  have hn3 : S3.length ≤ 1048576 := by omega
                  by_cases hend : nx = l.length
                  · have t1 : ((nx : Int) == (nm.size : Int)) = true := by rw [beq_iff_eq]; omega
                    have HRR : Hid (R = (S3, false)) := by show _ = _; rw [hR, if_pos hend]
                    clear hend hR
                    go_wp2_with fail
                    generalize (wc.setCell ⟨w.heap.size + 1 + 1, 0, none⟩ (.bool false)).setCell ⟨w.heap.size + 1, 0, none⟩ (.int .i64 (S3.length : Int)) = Wf at HLF HHF ⊢
                    refine (cut_lay B D l S3 (hold D l S3) false w Wf w.heap.size _ (.slice a4 (D.length + S3.length) c4) hD (by omega) (by rw [HP.out]; exact HLF.out) HHF.out (List.prefix_refl _)).mono ?_
                    rintro e w2 ⟨a, m, c, q, rfl, rfl, h1, h2⟩
                    have hlf : Lay w w.heap.size (.slice a0 d cap0) Wf (.slice a4 (D.length + S3.length) c4) (S3.length : Int) (pre l S3) (D.length : Int) := by rw [HP.out]; exact HLF.out
                    have HE : Hid (∀ q, _) := fun q => lay_end hlf h1 h2 q
                    have c9 := hlf.c9
                    have z9 := hlf.z9
                    have c10 := hlf.c10
                    have z10 := hlf.z10
                    clear hlf h1 h2 HLF HHF
                    go_wp2
                    refine bodyPost_ret (v := .tuple #[.slice a m c, .int .i64 (S3.length : Int), .bool (pre l S3), .bool false]) (by simp [results, Try.results23, go_sem, c9, c10]) rfl ⟨.slice a m c, ?_, ?_, ?_⟩
                    · rw [HRR.out]
                    · rw [HRR.out]; exact (HE.out _).1
                    · exact (HE.out _).2
                  · have t1 : ((nx : Int) == (nm.size : Int)) = false := by rw [beq_eq_false_iff_ne]; omega
                    have HRR : Hid (lead ch true l f nx S3 false = R) := by show _ = _; rw [hR, if_neg hend]
                    clear hend hR
                    go_wp2
                    go_roundg f
                    case measure => omega
                    case rel => exact ⟨nx, S3, false, .slice a4 (D.length + S3.length) c4, hnl, by omega, rfl, by rw [atOf_no HP.out], rfl, HRR.out, HALN.out, HHF.out, by rw [HP.out]; exact HLF.out⟩
end Go.Proofs.Qxb6000821a
