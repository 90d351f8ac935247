import Derived.Test.Qxb6000821aTabP
import Derived.Test.Qxb6000821aLead
namespace Go.Proofs.Qxb6000821a
open Go.RowKit
attribute [-simp] Try.isAgg22 Try.sizeOf22 Try.runUnderlying22

def zeroIs (i : TypeInfo) : Bool := match i.zero with | some (.agg c) => c.size == 259 | _ => false
theorem zero40b : (Try.prog.info? 40).map zeroIs = some true := by kernel_rfl
theorem zero40 : ∃ Z0 : Array Value, Z0.size = 259 ∧ ∀ w, (zeroValue 40).run Try.prog w = .ok (.agg Z0) w := by
  have h := zero40b
  cases hq : Try.prog.info? 40 with
  | none => simp [hq] at h
  | some i =>
    simp only [hq, Option.map_some, Option.some.injEq, zeroIs] at h
    split at h
    · rename_i c hc
      exact ⟨c, by simpa using h, fun w => by simp [zeroValue, typeInfo, hq, hc]⟩
    · cases h

theorem fold_facts (A Z0 : Array Value) (hA : A.size = 256) (hZ : Z0.size = 259) :
    ∃ Z : Array Value, Array.foldl (fun cs x => cs.setIfInBounds x.snd x.fst) Z0 A.zipIdx 0 256 = Z ∧ Z.size = 259 ∧ ∀ j, j < 256 → Z[j]? = A[j]? := by
  have key : ∀ (L : List Value) (k : Nat) (C : Array Value), k + L.length ≤ C.size →
      ∃ Z : Array Value, List.foldl (fun cs (x : Value × Nat) => cs.setIfInBounds x.snd x.fst) C (L.zipIdx k) = Z ∧ Z.size = C.size ∧ (∀ j, j < k → Z[j]? = C[j]?) ∧ ∀ j, j < L.length → Z[k + j]? = L[j]? := by
    intro L
    induction L with
    | nil => intro k C _; exact ⟨C, rfl, rfl, fun _ _ => rfl, fun j hj => by simp at hj⟩
    | cons x L ih =>
      intro k C hC
      simp only [List.length_cons] at hC
      obtain ⟨Z, e, hs, hlo, hhi⟩ := ih (k + 1) (C.setIfInBounds k x) (by simp; omega)
      refine ⟨Z, by simpa [List.zipIdx_cons] using e, by simpa using hs, fun j hj => ?_, fun j hj => ?_⟩
      · rw [hlo j (by omega), Array.getElem?_setIfInBounds_ne (by omega)]
      · cases j with
        | zero => 
          have := hlo k (by omega)
          rw [Array.getElem?_setIfInBounds_self_of_lt (by omega)] at this
          simpa using this
        | succ j =>
          have := hhi j (by simp at hj; omega)
          rw [show k + (j + 1) = k + 1 + j by omega]
          simpa using this
  obtain ⟨Z, e, hs, _, hhi⟩ := key A.toList 0 Z0 (by simp; omega)
  refine ⟨Z, ?_, by omega, fun j hj => ?_⟩
  · rw [← e, show (256 : Nat) = A.zipIdx.size by simp [hA]]
    rw [← Array.foldl_toList]
    simp
  · have := hhi j (by simp; omega)
    simpa using this

theorem form_at (w : World) (ch : UInt8 → UInt8) (Z : Array Value) (hZs : Z.size = 259) (hZa : ∀ j, j < 256 → Z[j]? = (tab ch 256)[j]?) (s1 s2 s3 : ByteArray) :
    FormAt (w.alloc (.cells (((Z.setIfInBounds 256 (.string s1)).setIfInBounds 257 (.string s2)).setIfInBounds 258 (.string s3)) 40)) w.heap.size ch s1 s2 s3 := by
  have hc : ∀ j, (w.alloc (.cells (((Z.setIfInBounds 256 (.string s1)).setIfInBounds 257 (.string s2)).setIfInBounds 258 (.string s3)) 40)).cell? ⟨w.heap.size, j, none⟩ = (((Z.setIfInBounds 256 (.string s1)).setIfInBounds 257 (.string s2)).setIfInBounds 258 (.string s3))[j]? := fun j =>
    cell_of_row _ _ j _ 40 (0, 0) (heap_alloc_last w _)
  refine ⟨fun c => ?_, ?_, ?_, ?_, by simp⟩
  · have h256 := UInt8.toNat_lt c
    rw [hc, Array.getElem?_setIfInBounds_ne (by omega), Array.getElem?_setIfInBounds_ne (by omega), Array.getElem?_setIfInBounds_ne (by omega), hZa _ (by omega), tab_at]
  · rw [hc, Array.getElem?_setIfInBounds_ne (by omega), Array.getElem?_setIfInBounds_ne (by omega), Array.getElem?_setIfInBounds_self_of_lt (by omega)]
  · rw [hc, Array.getElem?_setIfInBounds_ne (by omega), Array.getElem?_setIfInBounds_self_of_lt (by simp; omega)]
  · rw [hc, Array.getElem?_setIfInBounds_self_of_lt (by simp; omega)]

set_option linter.unusedSimpArgs false in
set_option maxHeartbeats 1000000 in
set_option maxRecDepth 100000 in
theorem zz_any (B : Nat) (ch : UInt8 → UInt8) (asw : Bool) (nm : ByteArray) (l D : List UInt8) (a0 : Option Addr) (n0 cap0 : Nat) (w : World) (hl : l = nm.data.toList) (hn : nm.size ≤ 1048576) (hD : D.length ≤ 1048576) (hB : B ≤ w.heap.size)
    (hv : Holds B w (.slice a0 n0 cap0) D) (h255 : ∀ c ∈ l, c ≠ 255) (R : List UInt8 × Bool) (hR : lead ch asw l (l.length + 1) 0 [] true = R) :
    Calls Try.prog 9 #[.agg (tab ch 256), .string ⟨#[46]⟩, .string ⟨#[91]⟩, .string ⟨#[93]⟩, .slice a0 n0 cap0, .string nm, .bool asw] w fun e w' =>
      ∃ v', e = .returned (.tuple #[v', .int .i64 R.1.length, .bool (pre l R.1), .bool R.2]) ∧ Holds B w' v' (hold D l R.1) ∧ Step w (.slice a0 n0 cap0) w' v' := by
  have hA := tab_size ch 256
  obtain ⟨A, hAe⟩ : ∃ A, tab ch 256 = A := ⟨_, rfl⟩
  rw [hAe] at hA ⊢
  have hlc := run_loadCellsFrom_new (P := Try.prog) w 22 A 256 hA
  obtain ⟨Z0, hZ0, hz40⟩ := zero40
  obtain ⟨Z, hZ, hZs, hZa⟩ := fold_facts A Z0 hA hZ0
  have HF : ∀ w : World, FormAt (w.alloc (.cells (((Z.setIfInBounds 256 (.string ⟨#[46]⟩)).setIfInBounds 257 (.string ⟨#[91]⟩)).setIfInBounds 258 (.string ⟨#[93]⟩)) 40)) w.heap.size ch ⟨#[46]⟩ ⟨#[91]⟩ ⟨#[93]⟩ := fun w => form_at w ch Z hZs (by rw [hAe]; exact hZa) _ _ _
  have HC : Hid (∀ oA oB, FormAt ((w.alloc oA).alloc oB) (w.heap.size + 1) ch ⟨#[46]⟩ ⟨#[91]⟩ ⟨#[93]⟩ → Calls Try.prog 23 #[.pointer (some ⟨w.heap.size + 1, 0, none⟩), .slice a0 n0 cap0, .string nm, .bool asw] ((w.alloc oA).alloc oB) fun e w' => ∃ v', e = .returned (.tuple #[v', .int .i64 R.1.length, .bool (pre l R.1), .bool R.2]) ∧ Hid (Holds B w' v' (hold D l R.1)) ∧ Hid (Step w (.slice a0 n0 cap0) w' v')) := by
    intro oA oB hf
    refine (lead_any B (w.heap.size + 1) ch asw nm l D a0 n0 cap0 _ hl hn hD (by simp; omega) ((hv.alloc _).alloc _) hf ?_ h255 R hR).mono ?_
    · intro h
      have := (hv.base _ h).2
      omega
    · rintro e w' ⟨v', rfl, h1, h2⟩
      exact ⟨v', rfl, h1, (((Step.refl w _).alloc _).alloc _).trans h2⟩
  have HFF : Hid (∀ w : World, FormAt (w.alloc (.cells (((Z.setIfInBounds 256 (.string ⟨#[46]⟩)).setIfInBounds 257 (.string ⟨#[91]⟩)).setIfInBounds 258 (.string ⟨#[93]⟩)) 40)) w.heap.size ch ⟨#[46]⟩ ⟨#[91]⟩ ⟨#[93]⟩) := HF
  clear HF hZa hAe hv hB hl hR h255
  go_enter Try.func9, Try.ntmps9
  go_wp2_with fail
  simp only [Try.isAgg22, Try.sizeOf22, Result.andThen, ↓reduceIte, hlc]
  rw [Oper.upon_value]
  go_wp2_with fail
  simp only [hz40, Try.sizeOf22, Result.andThen, hZ0, hZ, hZs]
  simp
  rw [Oper.upon_value]
  go_wp2_with fail
  refine (HC.out _ _ ?_).mono ?_
  · have := HFF.out (w.alloc (.cells A 22))
    simpa using this
  · rintro e w' ⟨v', rfl, h1, h2⟩
    go_wp2
    refine bodyPost_ret (v := .tuple #[v', .int .i64 R.1.length, .bool (pre l R.1), .bool R.2]) (by simp [results, Try.results9, go_sem]) rfl ⟨v', rfl, h1.out, h2.out⟩
end Go.Proofs.Qxb6000821a
