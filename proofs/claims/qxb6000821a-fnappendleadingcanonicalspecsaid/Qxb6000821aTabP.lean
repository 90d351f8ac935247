import Derived.Test.Qxb6000821aSpell
import Derived.Deep.WholeRow
import Derived.Deep.LoopGhost
import Derived.Laws.ResultCell
namespace Go.Proofs.Qxb6000821a
open Go.RowKit

theorem info22 : (Try.prog.info? 22).map (fun i => (i.zero, i.size)) = some (some (.agg (Array.replicate 256 (.int .u8 0))), 256) := by kernel_rfl

def tab (ch : UInt8 → UInt8) (k : Nat) : Array Value := Array.ofFn (n := 256) fun i => .int .u8 (if i.val < k then ((ch (UInt8.ofNat i.val)).toNat : Int) else 0)
theorem tab_size (ch : UInt8 → UInt8) (k : Nat) : (tab ch k).size = 256 := by simp [tab]
theorem tab_zero (ch : UInt8 → UInt8) : Array.replicate 256 (.int .u8 0) = tab ch 0 := by
  apply Array.ext
  · simp [tab]
  · intro i h1 h2
    simp [tab]
theorem tab_at (ch : UInt8 → UInt8) (c : UInt8) : (tab ch 256)[c.toNat]? = some (.int .u8 (ch c).toNat) := by
  have := UInt8.toNat_lt c
  rw [Array.getElem?_eq_getElem (by rw [tab_size]; omega)]
  simp [tab]
theorem tab_snoc (ch : UInt8 → UInt8) (k : Nat) : (tab ch k).setIfInBounds k (.int .u8 (ch (UInt8.ofNat k)).toNat) = tab ch (k + 1) := by
  apply Array.ext
  · simp [tab]
  · intro i h1 h2
    rw [Array.getElem_setIfInBounds]
    · simp only [tab, Array.getElem_ofFn]
      by_cases h : k = i
      · subst h; simp
      · simp only [h, if_false]
        have : i < k ↔ i < k + 1 := by omega
        simp [this]
    · rw [tab_size] at h2 ⊢; exact h2
theorem tab_one (ch : UInt8 → UInt8) (k : Nat) : (tab ch k).all (·.oneCell') = true := by
  rw [Array.all_eq_true]
  intro i h
  simp [tab, Value.oneCell']
theorem zero22 (ch : UInt8 → UInt8) : ∀ w, (zeroValue 22).run Try.prog w = .ok (.agg (tab ch 0)) w := by rw [← tab_zero]; exact (zero_of_info info22).1
theorem size22 : (Try.prog.info? 22).map (·.size) = some 256 := (zero_of_info info22).2
attribute [irreducible] tab
attribute [-simp] Try.isAgg22 Try.sizeOf22 Try.runUnderlying22

theorem store_old (w : World) (A A' : Array Value) (o : Obj) (ho : A.size = A'.size) (hs : A'.size = 256) (h1 : A'.all (·.oneCell') = true) :
    (storeCells ⟨w.heap.size, 0, none⟩ A'.toList 0).run Try.prog ((w.alloc (.cells A 22)).alloc o) = .ok () ((w.alloc (.cells A' 22)).alloc o) := by
  have hg : ((w.alloc (.cells A 22)).alloc o).heap[w.heap.size]? = some (.cells A 22) := by
    show ((w.heap.push (.cells A 22)).push o)[w.heap.size]? = _
    simp [Array.getElem?_push]
  have := run_storeVar_row (P := Try.prog) ((w.alloc (.cells A 22)).alloc o) w.heap.size 22 22 A A' hg (by rw [hs]; exact size22) ho h1
  have he : ((w.alloc (.cells A 22)).alloc o).setRow w.heap.size A' = (w.alloc (.cells A' 22)).alloc o := by
    simp only [World.setRow, World.alloc]
    congr 1
    apply Array.ext_getElem?
    intro i
    rw [Array.getElem?_modify]
    by_cases h : w.heap.size = i
    · subst h
      simp [Array.getElem?_push]
    · have h' : ¬ i = w.heap.size := fun e => h e.symm
      simp [h, h', Array.getElem?_push]
  rw [he] at this
  cases hq : Try.prog.info? 22 with
  | none => have := size22; simp [hq] at this
  | some i =>
    have h2 := size22
    have hs2 : A'.size = i.size := by simp [hq] at h2; omega
    simpa [storeVar, sizeOf, typeInfo, hq, Value.cells, hs2] using this

theorem load_old (w : World) (A : Array Value) (o : Obj) (hs : A.size = 256) :
    (loadVar 22 ⟨w.heap.size, 0, none⟩).run Try.prog ((w.alloc (.cells A 22)).alloc o) = .ok (.agg A) ((w.alloc (.cells A 22)).alloc o) := by
  have hg : ((w.alloc (.cells A 22)).alloc o).heap[w.heap.size]? = some (.cells A 22) := by
    show ((w.heap.push (.cells A 22)).push o)[w.heap.size]? = _
    simp [Array.getElem?_push]
  exact run_loadVar_row _ _ 22 22 A (0, 0) _ hg Try.underlying22 rfl (by rw [hs]; exact size22)

theorem wrap8 (i : Nat) (hi : i < 256) : IntKind.u8.wrap (i : Int) = i := by
  simp [IntKind.wrap, IntKind.signed, IntKind.bits] <;> omega

theorem id8 (i : Nat) (hi : i < 256) : ((id (UInt8.ofNat i)).toNat : Int) = i := by
  simp [UInt8.toNat_ofNat']
  omega

theorem isDigit_any (i : Nat) (b : Bool) (hb : (decide (48 ≤ i) && decide (i ≤ 57)) = b) (w : World) :
    Calls Try.prog 26 #[.int .u8 i] w fun e w' => e = .returned (.bool b) ∧ w' = w := by
  subst hb
  by_cases h1 : 48 ≤ i
  · by_cases h2 : i ≤ 57
    · have e1 : ((48 : Int) ≤ (i : Int)) := by omega
      have e2 : ((i : Int) ≤ 57) := by omega
      go_enter Try.func26, Try.ntmps26
      go_wp2
      go_ret
      simp
      exact ⟨h1, h2⟩
    · have e1 : ((48 : Int) ≤ (i : Int)) := by omega
      have e2 : ¬ ((i : Int) ≤ 57) := by omega
      go_enter Try.func26, Try.ntmps26
      go_wp2
      go_ret
      simp
  · have e1 : ¬ ((48 : Int) ≤ (i : Int)) := by omega
    go_enter Try.func26, Try.ntmps26
    go_wp2
    go_ret
    simp

/-- The canonical table. -/
def cch (c : UInt8) : UInt8 :=
  if 97 ≤ c.toNat ∧ c.toNat ≤ 122 then c else if 48 ≤ c.toNat ∧ c.toNat ≤ 57 then c else if 65 ≤ c.toNat ∧ c.toNat ≤ 90 then UInt8.ofNat (c.toNat + 32) else if c.toNat = 45 then 0 else 255
/-- The same, of a number. -/
def cn (i : Nat) : Nat :=
  if 97 ≤ i ∧ i ≤ 122 then i else if 48 ≤ i ∧ i ≤ 57 then i else if 65 ≤ i ∧ i ≤ 90 then i + 32 else if i = 45 then 0 else 255
theorem cch_toNat (c : UInt8) : (cch c).toNat = cn c.toNat := by
  have := UInt8.toNat_lt c
  unfold cch cn
  repeat' split
  all_goals first | rfl | (simp; omega)
theorem cch_at (i : Nat) (hi : i < 256) : ((cch (UInt8.ofNat i)).toNat : Int) = cn i := by
  rw [cch_toNat, UInt8.toNat_ofNat_of_lt' hi]
theorem ranges (i : Nat) (h : i ≠ 45) : i ≤ 44 ∨ (46 ≤ i ∧ i ≤ 47) ∨ (48 ≤ i ∧ i ≤ 57) ∨ (58 ≤ i ∧ i ≤ 64) ∨ (65 ≤ i ∧ i ≤ 90) ∨ (91 ≤ i ∧ i ≤ 96) ∨ (97 ≤ i ∧ i ≤ 122) ∨ 123 ≤ i := by omega

end Go.Proofs.Qxb6000821a
