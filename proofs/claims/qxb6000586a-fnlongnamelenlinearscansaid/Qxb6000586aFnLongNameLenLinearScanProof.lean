import Derived.Test.Qxb6000586aRows
import Derived.WalkKit
import Derived.ProofKit
import Derived.OpenShut
import Derived.ShutString
import Derived.ChangeOld
import Derived.Below
import Derived.Test.Qxb6000586aWalksA
import Derived.Test.Qxb6000586aClone
import Derived.Test.Qxb6000586aFacts
namespace Go.Proofs.Qxb6000586a.fnLongNameLenLinearScan
open Go.ChangeShapes Go.WideShapes Go.ChangeAt Go.RowKit
open Go.ChangeMaps (open_string shut_string)
set_option linter.unusedVariables false

theorem own : ownKnob Try.prog.godebug = none := by kernel_rfl
theorem laidOut : laidOutB Try.prog = true := by kernel_rfl

/-- WHAT THE WALK IS TOLD OF A SLICE OF INTEGERS THAT CAME IN: it is nil; or it leads to a row of 'cap' cells, the numbers 'zs' (the first 'len' are its elements, the rest its spare room), each fitting its kind. -/
def IsRow (k : IntKind) (w : World) (a : Option Addr) (len cap : Nat) (zs : List Int) : Prop :=
  (a = none ∧ len = 0 ∧ cap = 0 ∧ zs = []) ∨
  ∃ x, a = some x ∧ len ≤ cap ∧ cap ≤ maxLen ∧ zs.length = cap ∧ (∀ i, i < zs.length → w.cell? (x.add i) = some (.int k (zs.getD i 0))) ∧ ∀ n ∈ zs, (Lit.int k n).wf = true

theorem info5 : (Try.prog.info? 5).map (fun i => (i.zero, i.size, i.bytes)) = some (some (.int .u8 0), 1, 1) := by kernel_rfl

set_option maxHeartbeats 400000 in
theorem walk (a0 : Option Addr) (len0 cap0 : Nat) (z0 : List Int) (w : World) (w0 : IsRow .u8 w a0 len0 cap0 z0) :
    Calls Try.prog 5 #[.slice a0 len0 cap0] w fun e w' => e = .returned (.bool true) ∧ Below w.heap.size w w' := by
  by_cases hn : len0 ≤ 1048576
  · rcases w0 with ⟨rfl, rfl, rfl, rfl⟩ | ⟨x, rfl, hlc, hcm, hz, hcell, hwf⟩
    · go_enter Try.func5, Try.ntmps5
      go_wp2_with (first
        | (go_at_call 14; refine (bytes_ok _ _ _ _ hn).mono ?_; rintro e w' ⟨rfl, rfl⟩)
        | (go_at_call 24; refine (long_nil _).mono ?_; rintro e w' ⟨rfl, rfl⟩)
        | (go_at_call 16; refine (model_nil _).mono ?_; rintro e w' ⟨rfl, rfl⟩)
        | go_in)
      go_ret
      exact ⟨rfl, Below.refl _ _⟩
    · obtain ⟨i, hi, hz0, hz1, hz2⟩ := info_parts info5
      obtain ⟨w1, w2, hmk, hcp, hcl, hB, hsz⟩ := clone_runs w 23 5 i Try.underlying23 hi hz0 hz1 hz2 len0 cap0 hn x z0 (by omega) (fun j hj => hcell j (by omega))
      have hxl : (z0.take len0).length = len0 := by simp; omega
      have hcl2 : ∀ j, j < len0 → w2.cell? ⟨w.heap.size, j, none⟩ = some (.int .u8 ((z0.take len0).getD j 0)) := fun j hj => by
        rw [hcl j hj]; simp [List.getD_eq_getElem?_getD, hj]
      have hbd : ∀ y ∈ z0.take len0, 0 ≤ y ∧ y ≤ 255 := fun y hy => bounds_u8 (hwf y (List.mem_of_mem_take hy))
      generalize z0.take len0 = xs at hxl hcl2 hbd
      have HL1 : Hid (Calls Try.prog 24 #[.slice (some ⟨w.heap.size, 0, none⟩) len0 len0] w2 fun e w' => (∃ r : Nat, e = .returned (.int .i64 r) ∧ IsEnd xs r) ∧ w' = w2) := long_any w.heap.size len0 xs w2 hxl hn hbd hcl2
      have HM1 : Hid (Calls Try.prog 16 #[.slice (some ⟨w.heap.size, 0, none⟩) len0 len0] w2 fun e w' => (∃ r : Nat, e = .returned (.int .i64 r) ∧ IsEnd xs r) ∧ w' = w2) := model_any w.heap.size len0 len0 xs w2 hxl hn hcl2
      have HB : Hid (Below w.heap.size w w2) := hB
      clear hcell hcl hB hi hz0 hz1 hz2 hz hwf hxl hcl2 hbd
      go_enter Try.func5, Try.ntmps5
      go_wp2_with (first
        | (go_at_call 14; refine (bytes_ok _ _ _ _ hn).mono ?_; rintro e w' ⟨rfl, rfl⟩))
      go_wp2_with (first
        | (go_at_call 24; refine HL1.out.mono ?_; rintro e w' ⟨⟨r, rfl, hr⟩, rfl⟩)
        | (go_at_call 16; refine HM1.out.mono ?_; rintro e w' ⟨⟨s, rfl, hs⟩, rfl⟩)
        | go_in)
      obtain rfl := hr.uniq hs
      go_ret
      exact ⟨by simp, HB.out⟩
  · go_enter Try.func5, Try.ntmps5
    go_wp2_with (first
        | (go_at_call 14; refine (bytes_no _ _ _ _ (by omega)).mono ?_; rintro e w' ⟨rfl, rfl⟩))
    go_ret
    exact ⟨rfl, Below.refl _ _⟩

/-! ### THE ROW's STEP: WRITTEN OUT: LEAVE IT -/
set_option maxRecDepth 100000 in
theorem lifted (os : Os) (started : os.Started) (H : Type) (enc : TypeId × Value → H) :
    ReturnsInHanded {} Try.checked os 5 .any (Rows.fnLongNameLenLinearScanSpec.pre6 enc Try.prog Try.f5 Rows.fnLongNameLenLinearScanRow.domain false) (Rows.fnLongNameLenLinearScanSpec.post enc Try.prog Try.f5 false true false false) := by
  refine returnsInHanded_of_change (C := Try.checked) own started (by kernel_rfl) Try.func5
    (ChangeSpec.witness6 (enc := enc) (C := Try.checked) false ⟨#[], #[.slice none 0 0], []⟩ 8 (by kernel_rfl) (by kernel_rfl) (by kernel_rfl) (by kernel_rfl)) ?_
  intro W base args ds gs before hval0 hW hcnd _
  have hval : ∀ (j : Nat) t v, Try.f5.params[j]? = some t → args[j]? = some v → Value.okWide Try.prog W .any base t v := hval0
  have hW' := hW
  obtain ⟨p, q, hA0, hV, rfl, hfz, hnd⟩ := hW
  have hA : DataW.TrodAll enc Try.prog W 0 (fun _ => true) true Try.f5.params.toList args.toList ds p := hA0
  rw [Try.params5] at hA hval
  obtain ⟨v0, vs0, d0, ds0, p0, q0, hargs, rfl, rfl, h0, r0⟩ := trodAll_cons hA
  obtain ⟨rfl, rfl, rfl⟩ := trodAll_nil r0
  obtain rfl : args = #[v0] := by cases args; simp_all
  obtain ⟨rfl, rfl⟩ := trodVars_none hV
  obtain ⟨a0, len0, cap0, rfl⟩ := okWide_slice Try.underlying23 (hval 0 23 v0 rfl rfl)
  have k0 := h0
  have lt0 : ∀ x ∈ p0, x.block < W.heap.size := by obtain ⟨m, hm⟩ := k0; exact DataW.trod_lt m _ _ _ hm
  obtain ⟨z0, w0⟩ : ∃ zs, IsRow .u8 W a0 len0 cap0 zs := by
    obtain ⟨fuel, hf⟩ := h0
    rcases open_ints Try.underlying23 Try.underlying5 (by kernel_rfl) hf with ⟨hcs, _⟩ | ⟨x, l, c, zs, hcs, _, hl, hm, hz, _, hcell, hwz⟩
    · simp [Value.cells] at hcs
      obtain ⟨rfl, rfl, rfl⟩ := hcs
      exact ⟨[], .inl ⟨rfl, rfl, rfl, rfl⟩⟩
    · simp [Value.cells] at hcs
      obtain ⟨rfl, rfl, rfl⟩ := hcs
      exact ⟨zs, .inr ⟨_, rfl, hl, hm, by simpa using hz, hcell, hwz⟩⟩
  clear hA0 hval0
  refine (walk a0 len0 cap0 z0 W w0).mono fun e W' ⟨he, bel⟩ => ?_
  subst he
  exact ⟨_, rfl, _, _, _, [], _, [], hW', trodAll_mk1 (shut_bool Try.underlying4 _), (trodAll_cons_mk (Below.trod laidOut (by kernel_rfl) (of_decide_eq_true (by kernel_rfl)) k0 bel lt0) trodAll_mk0), rfl, bel.frame _, fun h => by cases h⟩

theorem over : Rows.fnLongNameLenLinearScanRow.holds Try.pinned (OpenSpec.ofChange Rows.fnLongNameLenLinearScanSpec) :=
  OpenClaim.holds_of_wide 5 Try.f5 rfl rfl rfl rfl rfl rfl rfl ⟨rfl, rfl, rfl, rfl, rfl⟩ rfl rfl rfl rfl rfl funcNo Try.func5 closed
    (of_decide_eq_true (by kernel_rfl)) (by unfold Func.isWrapper; first | (rw [if_pos (by decide +kernel)]; kernel_rfl) | (rw [if_neg (by decide +kernel)]; exact ⟨rfl, rfl⟩))
    (fun os started H enc _ => lifted os started H enc)

/-- ████ THE STATEMENT ████ -/
theorem proved : Rows.FnLongNameLenLinearScanSaid := over
#print axioms proved
end Go.Proofs.Qxb6000586a.fnLongNameLenLinearScan
