import Derived.Test.Qxb6000821aCut
namespace Go.Proofs.Qxb6000821a
open Go.RowKit

/-- The memory of appendLeading in mid-course: its four boxes (dst, n, same, start) from block N on, the slice v in the first; of what was there at its start only v0's row may have turned. -/
structure Lay (w : World) (N : Nat) (v0 : Value) (wr : World) (v : Value) (n : Int) (same : Bool) (st : Int) : Prop where
  os : wr.os = w.os
  tape : wr.tape = w.tape
  output : wr.output = w.output
  b5 : wr.heap[N]? = some (.cells #[v] 23 (0, 0))
  b9 : wr.heap[N + 1]? = some (.cells #[.int .i64 n] 3 (0, 0))
  b10 : wr.heap[N + 2]? = some (.cells #[.bool same] 4 (0, 0))
  b12 : wr.heap[N + 3]? = some (.cells #[.int .i64 st] 3 (0, 0))
  old : ∀ k, k < N → v0.ownBlock ≠ some k → wr.heap[k]? = w.heap[k]?
  size : N + 4 ≤ wr.heap.size
  home : ∀ g, v.ownBlock = some g → v0.ownBlock = some g ∨ N + 4 ≤ g
  low : ∀ g, v0.ownBlock = some g → g < N

theorem cell_heap {w : World} {b : Nat} {x : Value} {T : TypeId} (h : w.heap[b]? = some (.cells #[x] T (0, 0))) : w.cell? ⟨b, 0, none⟩ = some x := by simp [World.cell?, h]
theorem frozen_heap {w : World} {b : Nat} {x : Array Value} {T : TypeId} (h : w.heap[b]? = some (.cells x T (0, 0))) (o : Nat) : w.frozen? ⟨b, o, none⟩ = false := by simp [World.frozen?, h]

namespace Lay
variable {w wr : World} {N : Nat} {v0 v : Value} {n st : Int} {same : Bool}

theorem ne (h : Lay w N v0 wr v n same st) {k : Nat} (hk : N ≤ k) (hk2 : k < N + 4) : v.ownBlock ≠ some k := by
  intro e
  rcases h.home k e with h1 | h1
  · have := h.low k h1; omega
  · omega
theorem drewN (h : Lay w N v0 wr v n same st) (q : Nat) : Lay w N v0 (wr.drewN q) v n same st :=
  ⟨h.os, h.tape, h.output, h.b5, h.b9, h.b10, h.b12, h.old, h.size, h.home, h.low⟩
theorem drew (h : Lay w N v0 wr v n same st) : Lay w N v0 wr.drew v n same st :=
  ⟨h.os, h.tape, h.output, h.b5, h.b9, h.b10, h.b12, h.old, h.size, h.home, h.low⟩
theorem below (h : Lay w N v0 wr v n same st) {w1 : World} (hb : Below wr.heap.size wr w1) : Lay w N v0 w1 v n same st := by
  have hs := h.size
  refine ⟨hb.os.trans h.os, hb.tape.trans h.tape, hb.output.trans h.output, ?_, ?_, ?_, ?_, fun k hk hv => (hb.block k (by omega)).trans (h.old k hk hv), Nat.le_trans h.size hb.size, h.home, h.low⟩
  · rw [hb.block N (by omega)]; exact h.b5
  · rw [hb.block _ (by omega)]; exact h.b9
  · rw [hb.block _ (by omega)]; exact h.b10
  · rw [hb.block _ (by omega)]; exact h.b12
theorem alloc (h : Lay w N v0 wr v n same st) (o : Obj) : Lay w N v0 (wr.alloc o) v n same st := h.below ((Below.refl _ _).alloc (Nat.le_refl _) _)

/-- A call has taken v on to v2, and v2 is stored in the box. -/
theorem put (h : Lay w N v0 wr v n same st) {w2 : World} {v2 : Value} (hs : Step wr v w2 v2) : Lay w N v0 (w2.setCell ⟨N, 0, none⟩ v2) v2 n same st := by
  have hz := h.size
  have e0 : w2.heap[N]? = some (.cells #[v] 23 (0, 0)) := by rw [hs.block N (by omega) (h.ne (by omega) (by omega))]; exact h.b5
  refine ⟨hs.os.trans h.os, hs.tape.trans h.tape, hs.output.trans h.output, ?_, ?_, ?_, ?_, fun k hk hv => ?_, ?_, fun g hg => ?_, h.low⟩
  · simp [World.setCell, Array.getElem?_modify, e0]
  · rw [Below.heap_setCell _ _ _ _ (by show N + 1 ≠ N; omega), hs.block _ (by omega) (h.ne (by omega) (by omega))]; exact h.b9
  · rw [Below.heap_setCell _ _ _ _ (by show N + 2 ≠ N; omega), hs.block _ (by omega) (h.ne (by omega) (by omega))]; exact h.b10
  · rw [Below.heap_setCell _ _ _ _ (by show N + 3 ≠ N; omega), hs.block _ (by omega) (h.ne (by omega) (by omega))]; exact h.b12
  · rw [Below.heap_setCell _ _ _ _ (by show k ≠ N; omega), hs.block k (by omega) ?_]
    · exact h.old k hk hv
    · intro e
      rcases h.home k e with h1 | h1
      · exact hv h1
      · omega
  · have := hs.size; simp [World.setCell]; omega
  · rcases hs.home g hg with h1 | h1
    · exact h.home g h1
    · exact .inr (by omega)
/-- The box of n. -/
theorem setN (h : Lay w N v0 wr v n same st) (m : Int) : Lay w N v0 (wr.setCell ⟨N + 1, 0, none⟩ (.int .i64 m)) v m same st := by
  have hz := h.size
  refine ⟨h.os, h.tape, h.output, ?_, ?_, ?_, ?_, fun k hk hv => ?_, by simp [World.setCell]; omega, h.home, h.low⟩
  · rw [Below.heap_setCell _ _ _ _ (by show N ≠ N + 1; omega)]; exact h.b5
  · simp [World.setCell, Array.getElem?_modify, h.b9]
  · rw [Below.heap_setCell _ _ _ _ (by show N + 2 ≠ N + 1; omega)]; exact h.b10
  · rw [Below.heap_setCell _ _ _ _ (by show N + 3 ≠ N + 1; omega)]; exact h.b12
  · rw [Below.heap_setCell _ _ _ _ (by show k ≠ N + 1; omega)]; exact h.old k hk hv
theorem setS (h : Lay w N v0 wr v n same st) (b : Bool) : Lay w N v0 (wr.setCell ⟨N + 2, 0, none⟩ (.bool b)) v n b st := by
  have hz := h.size
  refine ⟨h.os, h.tape, h.output, ?_, ?_, ?_, ?_, fun k hk hv => ?_, by simp [World.setCell]; omega, h.home, h.low⟩
  · rw [Below.heap_setCell _ _ _ _ (by show N ≠ N + 2; omega)]; exact h.b5
  · rw [Below.heap_setCell _ _ _ _ (by show N + 1 ≠ N + 2; omega)]; exact h.b9
  · simp [World.setCell, Array.getElem?_modify, h.b10]
  · rw [Below.heap_setCell _ _ _ _ (by show N + 3 ≠ N + 2; omega)]; exact h.b12
  · rw [Below.heap_setCell _ _ _ _ (by show k ≠ N + 2; omega)]; exact h.old k hk hv

theorem c5 (h : Lay w N v0 wr v n same st) : wr.cell? ⟨N, 0, none⟩ = some v := cell_heap h.b5
theorem c9 (h : Lay w N v0 wr v n same st) : wr.cell? ⟨N + 1, 0, none⟩ = some (.int .i64 n) := cell_heap h.b9
theorem c10 (h : Lay w N v0 wr v n same st) : wr.cell? ⟨N + 1 + 1, 0, none⟩ = some (.bool same) := cell_heap h.b10
theorem c12 (h : Lay w N v0 wr v n same st) : wr.cell? ⟨N + 1 + 1 + 1, 0, none⟩ = some (.int .i64 st) := cell_heap h.b12
theorem z5 (h : Lay w N v0 wr v n same st) : wr.frozen? ⟨N, 0, none⟩ = false := frozen_heap h.b5 0
theorem z9 (h : Lay w N v0 wr v n same st) : wr.frozen? ⟨N + 1, 0, none⟩ = false := frozen_heap h.b9 0
theorem z10 (h : Lay w N v0 wr v n same st) : wr.frozen? ⟨N + 1 + 1, 0, none⟩ = false := frozen_heap h.b10 0

theorem form (h : Lay w N v0 wr v n same st) {fb : Nat} {ch : UInt8 → UInt8} {sep op cl : ByteArray} (hf : FormAt w fb ch sep op cl) (hfN : fb < N) (hv : v0.ownBlock ≠ some fb) : FormAt wr fb ch sep op cl := by
  have e := h.old fb hfN hv
  have hc : ∀ o, wr.cell? ⟨fb, o, none⟩ = w.cell? ⟨fb, o, none⟩ := fun o => World.cell?_of_block (w := w) e
  exact ⟨fun c => (hc _).trans (hf.char c), (hc _).trans hf.sep, (hc _).trans hf.open_, (hc _).trans hf.close, by have := h.size; omega⟩
theorem vne (h : Lay w N v0 wr v n same st) {fb : Nat} (hfN : fb < N) (hv : v0.ownBlock ≠ some fb) : v.ownBlock ≠ some fb := by
  intro e
  rcases h.home fb e with h1 | h1
  · exact hv h1
  · omega
end Lay

/-- What v holds, behind a store into a box that is no row of bytes. -/
theorem Holds.setBox {B : Nat} {w : World} {v : Value} {l : List UInt8} (h : Holds B w v l) {b : Nat} (hb : v.ownBlock ≠ some b) (u : Value) : Holds B (w.setCell ⟨b, 0, none⟩ u) v l :=
  h.kept (fun g hg => Below.heap_setCell _ _ _ _ (fun e => hb (by rw [hg]; exact congrArg some e)))
theorem Holds.below {B : Nat} {w w1 : World} {v : Value} {l : List UInt8} (h : Holds B w v l) (hb : Below w.heap.size w w1) : Holds B w1 v l :=
  h.kept (fun g hg => hb.block g (h.base g hg).2)
/-- A block of another type than bytes is not the slice's. -/
theorem Holds.ne {B : Nat} {w : World} {v : Value} {l : List UInt8} (h : Holds B w v l) {b : Nat} {cs : Array Value} {T : TypeId} {fr : Nat × Nat} (hb : w.heap[b]? = some (.cells cs T fr)) (hT : T ≠ 5) : v.ownBlock ≠ some b := by
  intro e
  rcases h.2 with ⟨h1, _⟩ | ⟨g, cap, cur, hv, _, hg, _⟩
  · rw [h1] at e; cases e
  · rw [hv] at e
    injection e with e
    simp only at e
    subst e
    rw [hg] at hb
    injection hb with hb
    injection hb with _ hb _
    exact hT hb.symm
theorem Holds.slice {B : Nat} {w : World} {v : Value} {l : List UInt8} (h : Holds B w v l) : ∃ a c, v = .slice a l.length c ∧ l.length ≤ c := by
  rcases h.shape with ⟨rfl, rfl⟩ | ⟨g, c, rfl, hc⟩
  · exact ⟨_, _, rfl, Nat.le_refl _⟩
  · exact ⟨_, _, rfl, hc⟩
theorem lay_start (w : World) (v0 : Value) (d : Int) (hlow : ∀ g, v0.ownBlock = some g → g < w.heap.size) :
    Lay w w.heap.size v0 ((((w.alloc (.cells #[v0] 23)).alloc (.cells #[.int .i64 0] 3)).alloc (.cells #[.bool true] 4)).alloc (.cells #[.int .i64 d] 3)) v0 0 true d := by
  refine ⟨rfl, rfl, rfl, ?_, ?_, ?_, ?_, fun k hk _ => ?_, by simp, fun g hg => .inl hg, hlow⟩
  · show ((((w.heap.push _).push _).push _).push _)[w.heap.size]? = _
    simp only [Array.getElem?_push, Array.size_push]
    rw [if_neg (by omega), if_neg (by omega), if_neg (by omega), if_pos trivial]
  · show ((((w.heap.push _).push _).push _).push _)[w.heap.size + 1]? = _
    simp only [Array.getElem?_push, Array.size_push]
    rw [if_neg (by omega), if_neg (by omega), if_pos trivial]
  · show ((((w.heap.push _).push _).push _).push _)[w.heap.size + 2]? = _
    simp only [Array.getElem?_push, Array.size_push]
    rw [if_neg (by omega), if_pos trivial]
  · show ((((w.heap.push _).push _).push _).push _)[w.heap.size + 3]? = _
    simp only [Array.getElem?_push, Array.size_push]
    rw [if_pos trivial]
  · show ((((w.heap.push _).push _).push _).push _)[k]? = _
    simp only [Array.getElem?_push, Array.size_push]
    rw [if_neg (by omega), if_neg (by omega), if_neg (by omega), if_neg (by omega)]
/-- Out of the memory in mid-course: what the caller is told. -/
theorem Lay.step {w wr : World} {v0 v v' : Value} {n st : Int} {same : Bool} (h : Lay w w.heap.size v0 wr v n same st) (hv : v'.ownBlock = v.ownBlock) : Step w v0 wr v' :=
  ⟨h.os, h.tape, h.output, by have := h.size; omega, h.old, fun g hg => by
    rw [hv] at hg
    rcases h.home g hg with h1 | h1
    · exact .inl h1
    · exact .inr (by omega)⟩
theorem cut_lay (B : Nat) (D l S Y : List UInt8) (whole : Bool) (w wr : World) (N : Nat) (v0 v : Value) (hD : D.length ≤ 1048576) (hS : S.length ≤ 1048576) (hlay : Lay w N v0 wr v (S.length : Int) (pre l S) (D.length : Int))
    (hv : Holds B wr v Y) (hY : hold D l S <+: Y) :
    Calls Try.prog 27 #[.bool whole, .pointer (some ⟨N + 1 + 1, 0, none⟩), .pointer (some ⟨N, 0, none⟩), .pointer (some ⟨N + 1 + 1 + 1, 0, none⟩), .pointer (some ⟨N + 1, 0, none⟩)] wr
      fun e w' => ∃ a m c q, e = .returned (.tuple #[.slice a m c, .int .i64 (S.length : Int), .bool (pre l S), .bool whole]) ∧ w' = wr.drewN q ∧ Holds B wr (.slice a m c) (hold D l S) ∧ (Value.slice a m c).ownBlock = v.ownBlock := by
  cases hp : pre l S with
  | true =>
    rw [hp] at hlay
    rw [hold_yes hp] at hY ⊢
    refine (cut_yes B _ _ _ _ whole v D Y _ wr hD hY hv hlay.c10 hlay.c5 hlay.c12 hlay.c9).mono ?_
    rintro e w' ⟨v', q, rfl, rfl, h1, h2⟩
    obtain ⟨a, c, rfl, _⟩ := h1.slice
    exact ⟨a, _, c, q, rfl, rfl, h1, h2⟩
  | false =>
    rw [hp] at hlay
    rw [hold_no hp] at hY ⊢
    refine (cut_no B _ _ _ _ whole v D S Y wr hD hS hY hv hlay.c10 hlay.c5 hlay.c12 hlay.c9).mono ?_
    rintro e w' ⟨v', q, rfl, rfl, h1, h2⟩
    obtain ⟨a, c, rfl, _⟩ := h1.slice
    exact ⟨a, _, c, q, rfl, rfl, h1, h2⟩
/-- What appendLeading leaves, behind the stores of its named results. -/
theorem lay_end {B : Nat} {D l S : List UInt8} {w wr : World} {v0 v : Value} {a : Option Addr} {m c : Nat} (hlay : Lay w w.heap.size v0 wr v (S.length : Int) (pre l S) (D.length : Int)) (hv : Holds B wr (.slice a m c) (hold D l S))
    (ho : (Value.slice a m c).ownBlock = v.ownBlock) (q : Nat) :
    Holds B (((wr.setCell ⟨w.heap.size + 1, 0, none⟩ (.int .i64 (S.length : Int))).setCell ⟨w.heap.size + 1 + 1, 0, none⟩ (.bool (pre l S))).drewN q) (.slice a m c) (hold D l S) ∧
      Step w v0 (((wr.setCell ⟨w.heap.size + 1, 0, none⟩ (.int .i64 (S.length : Int))).setCell ⟨w.heap.size + 1 + 1, 0, none⟩ (.bool (pre l S))).drewN q) (.slice a m c) := by
  refine ⟨?_, ?_⟩
  · have h1 : Holds B (wr.setCell ⟨w.heap.size + 1, 0, none⟩ (.int .i64 (S.length : Int))) (.slice a m c) (hold D l S) := hv.setBox (by rw [ho]; exact hlay.ne (by omega) (by omega)) _
    exact h1.setBox (by rw [ho]; exact hlay.ne (by omega) (by omega)) _
  · exact (((hlay.setN _).setS _).drewN q).step ho
/-- The state in mid-round: besides the boxes, the element in its own block eb. -/
structure Mid (B : Nat) (w : World) (v0 : Value) (l D : List UInt8) (eb : Nat) (s : ByteArray) (br : Bool) (S Y : List UInt8) (v : Value) (W : World) : Prop where
  lay : Lay w w.heap.size v0 W v (S.length : Int) (pre l S) (D.length : Int)
  holds : Holds B W v Y
  el : W.heap[eb]? = some (.cells #[.string s, .bool br] 45 (0, 0))
  ge : w.heap.size + 4 ≤ eb

namespace Mid
variable {B : Nat} {w : World} {v0 : Value} {l D : List UInt8} {eb : Nat} {s : ByteArray} {br : Bool} {S Y : List UInt8} {v : Value} {W : World}
theorem drewN (h : Mid B w v0 l D eb s br S Y v W) (q : Nat) : Mid B w v0 l D eb s br S Y v (W.drewN q) := ⟨h.lay.drewN q, h.holds, h.el, h.ge⟩
theorem drew (h : Mid B w v0 l D eb s br S Y v W) : Mid B w v0 l D eb s br S Y v W.drew := ⟨h.lay.drew, h.holds, h.el, h.ge⟩
theorem vne (h : Mid B w v0 l D eb s br S Y v W) : v.ownBlock ≠ some eb := h.holds.ne h.el (by decide)
theorem lt (h : Mid B w v0 l D eb s br S Y v W) : eb < W.heap.size := by
  rcases Nat.lt_or_ge eb W.heap.size with h1 | h1
  · exact h1
  · have := h.el
    rw [Array.getElem?_eq_none h1] at this
    cases this
theorem e0 (h : Mid B w v0 l D eb s br S Y v W) : W.cell? ⟨eb, 0, none⟩ = some (.string s) := by simp [World.cell?, h.el]
theorem e1 (h : Mid B w v0 l D eb s br S Y v W) : W.cell? ⟨eb, 1, none⟩ = some (.bool br) := by simp [World.cell?, h.el]
/-- A call has taken v on to v2, which is stored in the box. -/
theorem put (h : Mid B w v0 l D eb s br S Y v W) {w2 : World} {v2 : Value} {Y2 : List UInt8} (hs : Step W v w2 v2) (hh : Holds B w2 v2 Y2) : Mid B w v0 l D eb s br S Y2 v2 (w2.setCell ⟨w.heap.size, 0, none⟩ v2) := by
  have hl := h.lay.put hs
  refine ⟨hl, hh.setBox (hl.ne (Nat.le_refl _) (by omega)) _, ?_, h.ge⟩
  have hge := h.ge
  rw [Below.heap_setCell _ _ _ _ (by show eb ≠ w.heap.size; omega), hs.block eb h.lt h.vne]
  exact h.el
theorem more (h : Mid B w v0 l D eb s br S Y v W) {Y2 : List UInt8} (hh : Holds B W v Y2) : Mid B w v0 l D eb s br S Y2 v W := ⟨h.lay, hh, h.el, h.ge⟩
/-- Behind a call, ahead of the store: the cells that the region reads stand. -/
theorem after (h : Mid B w v0 l D eb s br S Y v W) {w2 : World} {v2 : Value} (hs : Step W v w2 v2) : w2.cell? ⟨w.heap.size, 0, none⟩ = some v ∧ w2.frozen? ⟨w.heap.size, 0, none⟩ = false := by
  have hz := h.lay.size
  have hne := h.lay.ne (Nat.le_refl w.heap.size) (by omega)
  exact ⟨(hs.cell (p := ⟨w.heap.size, 0, none⟩) (by show w.heap.size < W.heap.size; omega) hne).trans h.lay.c5, (hs.frozen (p := ⟨w.heap.size, 0, none⟩) (by show w.heap.size < W.heap.size; omega) hne).trans h.lay.z5⟩
end Mid
/-- spellString called on the box's slice, its answer stored back. -/
theorem mid_string (B fb : Nat) (ch : UInt8 → UInt8) (nm : ByteArray) (l D : List UInt8) (w : World) (v0 : Value) (eb : Nat) (s : ByteArray) (br : Bool) (S S1 : List UInt8) (v : Value) (W : World) (x : ByteArray) (t : List UInt8)
    (hl : l = nm.data.toList) (hx : t = x.data.toList) (hn : nm.size ≤ 1048576) (hD : D.length ≤ 1048576) (hS : S1.length + t.length ≤ 4194304) (hB : B ≤ w.heap.size) (hm : Mid B w v0 l D eb s br S (hold D l S1) v W)
    (hf : FormAt w fb ch ⟨#[46]⟩ ⟨#[91]⟩ ⟨#[93]⟩) (hvf : v0.ownBlock ≠ some fb) :
    Calls Try.prog 29 #[v, .int .i64 (atOf l S1), .string nm, .string x] W.drew
      fun e w2 => ∃ a m c, e = .returned (.tuple #[.slice a m c, .int .i64 (atOf l (S1 ++ t))]) ∧ (w2.cell? ⟨w.heap.size, 0, none⟩ = some v ∧ w2.frozen? ⟨w.heap.size, 0, none⟩ = false ∧
        w2.cell? ⟨fb, 256, none⟩ = some (.string ⟨#[46]⟩) ∧ w2.cell? ⟨fb, 257, none⟩ = some (.string ⟨#[91]⟩) ∧ w2.cell? ⟨fb, 258, none⟩ = some (.string ⟨#[93]⟩) ∧ w2.cell? ⟨eb, 0, none⟩ = some (.string s)) ∧
        Hid (Mid B w v0 l D eb s br S (hold D l (S1 ++ t)) (.slice a m c) (w2.setCell ⟨w.heap.size, 0, none⟩ (.slice a m c))) := by
  have hz := hm.lay.size
  refine (string_any B D l S1 v nm x t W.drew hl hx hn hD (by omega) (by show B ≤ W.heap.size; omega) hm.holds).mono ?_
  rintro e w2 ⟨v2, rfl, h1, h2⟩
  have h2' : Step W v w2 v2 := ⟨h2.os, h2.tape, h2.output, h2.size, h2.block, h2.home⟩
  obtain ⟨a, c, rfl, _⟩ := h1.slice
  have hfW := hm.lay.form hf hf.lt hvf
  have hne := hm.lay.vne hf.lt hvf
  have hfc : ∀ o, w2.cell? ⟨fb, o, none⟩ = W.cell? ⟨fb, o, none⟩ := fun o => h2'.cell (p := ⟨fb, o, none⟩) hfW.lt hne
  exact ⟨a, _, c, rfl, ⟨(hm.after h2').1, (hm.after h2').2, (hfc _).trans hfW.sep, (hfc _).trans hfW.open_, (hfc _).trans hfW.close, (h2'.cell (p := ⟨eb, 0, none⟩) hm.lt hm.vne).trans hm.e0⟩, hm.put h2' h1⟩
/-- spellString called on the box's slice cut short. -/
theorem mid_cutstr (B : Nat) (nm : ByteArray) (l D : List UInt8) (w : World) (v0 : Value) (eb : Nat) (s : ByteArray) (br : Bool) (S S1 Y : List UInt8) (v u : Value) (W : World) (t : List UInt8)
    (hl : l = nm.data.toList) (hx : t = s.data.toList) (hn : nm.size ≤ 1048576) (hD : D.length ≤ 1048576) (hS : S1.length + t.length ≤ 4194304) (hB : B ≤ w.heap.size) (hm : Mid B w v0 l D eb s br S Y v W)
    (hu : Holds B W u (hold D l S1)) (ho : u.ownBlock = v.ownBlock) :
    Calls Try.prog 29 #[u, .int .i64 (atOf l S1), .string nm, .string s] W.drew
      fun e w2 => ∃ a m c, e = .returned (.tuple #[.slice a m c, .int .i64 (atOf l (S1 ++ t))]) ∧ (w2.cell? ⟨w.heap.size, 0, none⟩ = some v ∧ w2.frozen? ⟨w.heap.size, 0, none⟩ = false ∧ w2.cell? ⟨eb, 0, none⟩ = some (.string s)) ∧
        Hid (Mid B w v0 l D eb s br S (hold D l (S1 ++ t)) (.slice a m c) (w2.setCell ⟨w.heap.size, 0, none⟩ (.slice a m c))) := by
  have hz := hm.lay.size
  refine (string_any B D l S1 u nm s t W.drew hl hx hn hD (by omega) (by show B ≤ W.heap.size; omega) hu).mono ?_
  rintro e w2 ⟨v2, rfl, h1, h2⟩
  have h2' : Step W v w2 v2 := ⟨h2.os, h2.tape, h2.output, h2.size, fun k hk hv => h2.block k hk (by rw [ho]; exact hv), fun g hg => by rw [← ho]; exact h2.home g hg⟩
  obtain ⟨a, c, rfl, _⟩ := h1.slice
  exact ⟨a, _, c, rfl, ⟨(hm.after h2').1, (hm.after h2').2, (h2'.cell (p := ⟨eb, 0, none⟩) hm.lt hm.vne).trans hm.e0⟩, hm.put h2' h1⟩

theorem mid_text_ok (B fb : Nat) (ch : UInt8 → UInt8) (nm : ByteArray) (l D : List UInt8) (w : World) (v0 : Value) (eb : Nat) (s : ByteArray) (br : Bool) (S S1 : List UInt8) (v : Value) (W : World) (t : List UInt8)
    (hl : l = nm.data.toList) (hx : t = s.data.toList) (hn : nm.size ≤ 1048576) (hs : s.size ≤ 1048576) (hD : D.length ≤ 1048576) (hS : S1.length + t.length ≤ 4194304) (hB : B ≤ w.heap.size) (hm : Mid B w v0 l D eb s br S (hold D l S1) v W)
    (hf : FormAt w fb ch ⟨#[46]⟩ ⟨#[91]⟩ ⟨#[93]⟩) (hvf : v0.ownBlock ≠ some fb) (hp : br = false → pre l S1 = true → pre l (S1 ++ t) = true) (h255 : ∀ c ∈ t, c ≠ 255) (hok : elOk ch t br = true) :
    Calls Try.prog 30 #[.pointer (some ⟨fb, 0, none⟩), v, .int .i64 (atOf l S1), .string nm, .agg #[.string s, .bool br]] W
      fun e w2 => ∃ a m c, e = .returned (.tuple #[.slice a m c, .int .i64 (atOf l (S1 ++ elOut ch t br)), .bool true]) ∧ (w2.cell? ⟨w.heap.size, 0, none⟩ = some v ∧ w2.frozen? ⟨w.heap.size, 0, none⟩ = false) ∧
        Hid (Mid B w v0 l D eb s br S (hold D l (S1 ++ elOut ch t br)) (.slice a m c) (w2.setCell ⟨w.heap.size, 0, none⟩ (.slice a m c))) := by
  have hz := hm.lay.size
  refine (text_any B fb ch _ _ _ D l S1 v nm s t br W hl hx hn hs hD hS (by omega) hm.holds (hm.lay.vne hf.lt hvf) (hm.lay.form hf hf.lt hvf) hp h255).mono ?_
  rintro e w2 ⟨v2, at', rfl, h2, hy, _⟩
  obtain ⟨rfl, h1⟩ := hy hok
  obtain ⟨a, c, rfl, _⟩ := h1.slice
  exact ⟨a, _, c, by rw [hok], hm.after h2, hm.put h2 h1⟩

theorem mid_text_no (B fb : Nat) (ch : UInt8 → UInt8) (nm : ByteArray) (l D : List UInt8) (w : World) (v0 : Value) (eb : Nat) (s : ByteArray) (br : Bool) (S S1 : List UInt8) (v : Value) (W : World) (t : List UInt8)
    (hl : l = nm.data.toList) (hx : t = s.data.toList) (hn : nm.size ≤ 1048576) (hs : s.size ≤ 1048576) (hD : D.length ≤ 1048576) (hS : S1.length + t.length ≤ 4194304) (hB : B ≤ w.heap.size) (hm : Mid B w v0 l D eb s br S (hold D l S1) v W)
    (hf : FormAt w fb ch ⟨#[46]⟩ ⟨#[91]⟩ ⟨#[93]⟩) (hvf : v0.ownBlock ≠ some fb) (hp : br = false → pre l S1 = true → pre l (S1 ++ t) = true) (h255 : ∀ c ∈ t, c ≠ 255) (hok : elOk ch t br = false) :
    Calls Try.prog 30 #[.pointer (some ⟨fb, 0, none⟩), v, .int .i64 (atOf l S1), .string nm, .agg #[.string s, .bool br]] W
      fun e w2 => ∃ a m c at', e = .returned (.tuple #[.slice a m c, .int .i64 at', .bool false]) ∧ (w2.cell? ⟨w.heap.size, 0, none⟩ = some v ∧ w2.frozen? ⟨w.heap.size, 0, none⟩ = false) ∧
        Hid (∃ Y, hold D l S1 <+: Y ∧ Mid B w v0 l D eb s br S Y (.slice a m c) (w2.setCell ⟨w.heap.size, 0, none⟩ (.slice a m c))) := by
  have hz := hm.lay.size
  refine (text_any B fb ch _ _ _ D l S1 v nm s t br W hl hx hn hs hD hS (by omega) hm.holds (hm.lay.vne hf.lt hvf) (hm.lay.form hf hf.lt hvf) hp h255).mono ?_
  rintro e w2 ⟨v2, at', rfl, h2, _, hno⟩
  obtain ⟨Y, hY, h1⟩ := hno hok
  obtain ⟨a, c, rfl, _⟩ := h1.slice
  exact ⟨a, _, c, at', by rw [hok], hm.after h2, Y, hY, hm.put h2 h1⟩
end Go.Proofs.Qxb6000821a
