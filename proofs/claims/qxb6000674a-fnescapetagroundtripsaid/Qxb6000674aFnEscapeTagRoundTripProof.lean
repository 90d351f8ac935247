import Derived.Test.Qxb6000674aRows
import Derived.WalkKit
import Derived.ProofKit
import Derived.OpenShut
import Derived.ShutString
import Derived.Below
import Derived.ChangeOld
import Derived.Test.Qxb6000674aEscape
import Derived.Test.Qxb6000674aDecode
import Derived.Test.Qxb6000674aFacts
namespace Go.Proofs.Qxb6000674a.fnEscapeTagRoundTrip
open Go.ChangeShapes Go.WideShapes Go.ChangeAt Go.RowKit
open Go.ChangeMaps (open_string shut_string)
set_option linter.unusedVariables false

theorem own : ownKnob Try.prog.godebug = none := by kernel_rfl

set_option maxHeartbeats 400000 in
theorem bytes_ok (s : ByteArray) (w : World) (hn : s.size ≤ 1048576) :
    Calls Try.prog 23 #[.string s] w fun e w' => e = .returned (.bool true) ∧ w' = w := by
  go_enter Try.func23, Try.ntmps23
  go_wp2
  go_ret
  exact ⟨rfl, rfl⟩

set_option maxHeartbeats 400000 in
theorem bytes_no (s : ByteArray) (w : World) (hn : 1048576 < s.size) (hm : s.size ≤ maxLen) :
    Calls Try.prog 23 #[.string s] w fun e w' => e = .returned (.bool false) ∧ w' = w := by
  unfold maxLen at hm
  go_enter Try.func23, Try.ntmps23
  go_wp2
  go_ret
  exact ⟨rfl, rfl⟩

theorem escape_some (s : ByteArray) (w : World) (hs : s.size ≤ 1048576) :
    Calls Try.prog 32 #[.string s] w fun e w' => ∃ t : ByteArray, e = .returned (.string t) ∧ t.data.toList = esc s.data.toList ∧ Below w.heap.size w w' := by
  refine (escape_any s w hs).mono ?_
  rintro e w' ⟨rfl, hB⟩
  exact ⟨_, rfl, by simp, hB⟩

theorem in_range {t : ByteArray} {l : List UInt8} (ht : t.data.toList = esc l) (k : Nat) (hk : k < t.size) : (33 : Int) ≤ (t[k].toNat : Int) ∧ (t[k].toNat : Int) ≤ 126 := by
  have hm : t[k] ∈ esc l := by
    rw [← ht]
    exact List.mem_iff_getElem.2 ⟨k, by simpa using hk, rfl⟩
  have := esc_range l _ hm
  omega

set_option maxHeartbeats 400000 in
theorem walk (a0 : ByteArray) (w0 : a0.size ≤ maxLen) (w : World) :
    Calls Try.prog 9 #[.string a0] w fun e w' => e = .returned (.bool true) ∧ Below w.heap.size w w' := by
  by_cases hn : a0.size ≤ 1048576
  · go_enter Try.func9, Try.ntmps9
    go_wp2_with (first
      | (go_at_call 23; refine (bytes_ok _ _ hn).mono ?_; rintro e w' ⟨rfl, rfl⟩)
      | (go_at_call 32; refine (escape_some _ _ hn).mono ?_; rintro e w1 ⟨t, rfl, ht, hB1⟩)
      | go_in)
    have HT : Hid (t.data.toList = esc a0.data.toList) := ht
    have HB1 : Hid (Below w'.heap.size w' w1) := hB1
    have hts : t.size ≤ 3145728 := by
      have h1 : t.size = (esc a0.data.toList).length := by rw [← ht]; simp
      have h2 := (esc_len a0.data.toList).2
      have h3 : a0.data.toList.length = a0.size := by simp
      omega
    clear ht hB1
    go_loop [4] (fun i => ∃ k : Nat, k ≤ t.size ∧ i = .int .i64 k) (fun i => t.size - (intOf i).toNat)
    case atStart => exact ⟨0, Nat.zero_le _, rfl⟩
    case round =>
      obtain ⟨k, hk, rfl⟩ := hrel
      by_cases hlt : k < t.size
      · obtain ⟨h1, h2⟩ := in_range HT.out k hlt
        go_wp2
        exact ⟨⟨k + 1, by omega, by go_num⟩, by simp [intOf]; omega⟩
      · go_wp2_with fail
        refine (decode_any t a0.data.toList w1 HT.out (by simpa using hn)).mono ?_
        rintro e w2 ⟨rfl, hB2⟩
        go_wp2
        go_ret
        exact ⟨by simp, HB1.out.trans (hB2.mono HB1.out.size)⟩
  · go_enter Try.func9, Try.ntmps9
    go_wp2_with (first
      | (go_at_call 23; refine (bytes_no _ _ (by omega) w0).mono ?_; rintro e w' ⟨rfl, rfl⟩))
    go_ret
    exact ⟨rfl, Below.refl _ _⟩

/-! ### THE ROW's STEP: WRITTEN OUT: LEAVE IT -/
set_option maxRecDepth 100000 in
theorem lifted (os : Os) (started : os.Started) (H : Type) (enc : TypeId × Value → H) :
    ReturnsInHanded {} Try.checked os 9 .any (Rows.fnEscapeTagRoundTripSpec.pre6 enc Try.prog Try.f9 Rows.fnEscapeTagRoundTripRow.domain false) (Rows.fnEscapeTagRoundTripSpec.post enc Try.prog Try.f9 false true false false) := by
  refine returnsInHanded_of_change (C := Try.checked) own started (by kernel_rfl) Try.func9
    (ChangeSpec.witness6 (enc := enc) (C := Try.checked) false ⟨#[], #[.string ByteArray.empty], []⟩ 8 (by kernel_rfl) (by kernel_rfl) (by kernel_rfl) (by kernel_rfl)) ?_
  intro W base args ds gs before hval0 hW hcnd _
  have hval : ∀ (j : Nat) t v, Try.f9.params[j]? = some t → args[j]? = some v → Value.okWide Try.prog W .any base t v := hval0
  have hW' := hW
  obtain ⟨p, q, hA0, hV, rfl, hfz, hnd⟩ := hW
  have hA : DataW.TrodAll enc Try.prog W 0 (fun _ => true) true Try.f9.params.toList args.toList ds p := hA0
  rw [Try.params9] at hA hval
  obtain ⟨v0, vs0, d0, ds0, p0, q0, hargs, rfl, rfl, h0, r0⟩ := trodAll_cons hA
  obtain ⟨rfl, rfl, rfl⟩ := trodAll_nil r0
  obtain rfl : args = #[v0] := by cases args; simp_all
  obtain ⟨rfl, rfl⟩ := trodVars_none hV
  obtain ⟨a0, rfl, rfl, rfl, w0⟩ := open_string Try.underlying9 (hval 0 9 v0 rfl rfl) h0
  clear hA0 hval0
  simp only [List.append_nil] at hW'
  refine (walk a0 w0 W).mono fun e W' ⟨he, bel⟩ => ?_
  subst he
  exact ⟨_, rfl, _, _, _, [], [], [], hW', trodAll_mk1 (shut_bool Try.underlying4 _), (trodAll_cons_mk (shut_string Try.underlying9 w0) trodAll_mk0), rfl, bel.frame _, fun h => by cases h⟩

theorem over : Rows.fnEscapeTagRoundTripRow.holds Try.pinned (OpenSpec.ofChange Rows.fnEscapeTagRoundTripSpec) :=
  OpenClaim.holds_of_wide 9 Try.f9 rfl rfl rfl rfl rfl rfl rfl ⟨rfl, rfl, rfl, rfl, rfl⟩ rfl rfl rfl rfl rfl funcNo Try.func9 closed
    (of_decide_eq_true (by kernel_rfl)) (by unfold Func.isWrapper; first | (rw [if_pos (by decide +kernel)]; kernel_rfl) | (rw [if_neg (by decide +kernel)]; exact ⟨rfl, rfl⟩))
    (fun os started H enc _ => lifted os started H enc)

/-- ████ THE STATEMENT ████ -/
theorem proved : Rows.FnEscapeTagRoundTripSaid :=
  over
#print axioms proved
end Go.Proofs.Qxb6000674a.fnEscapeTagRoundTrip
