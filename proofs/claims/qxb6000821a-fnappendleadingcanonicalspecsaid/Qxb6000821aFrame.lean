import Derived.WalkKit
import Derived.Lib.AppendStr
import Derived.Lib.UnsafeStr
import Derived.Maps.AppendAt
namespace Go.Proofs.Qxb6000821a
open Go.RowKit

/-- From w (where the slice is v) to w' (where it is v'): of what was there in w only v's own row may have turned; v' lies in v's row or in a new one. -/
structure Step (w : World) (v : Value) (w' : World) (v' : Value) : Prop where
  os : w'.os = w.os
  tape : w'.tape = w.tape
  output : w'.output = w.output
  size : w.heap.size ≤ w'.heap.size
  block : ∀ k, k < w.heap.size → v.ownBlock ≠ some k → w'.heap[k]? = w.heap[k]?
  home : ∀ g, v'.ownBlock = some g → v.ownBlock = some g ∨ w.heap.size ≤ g

theorem Step.refl (w : World) (v : Value) : Step w v w v := ⟨rfl, rfl, rfl, Nat.le_refl _, fun _ _ _ => rfl, fun _ h => .inl h⟩
theorem Step.trans {w w1 w2 : World} {v v1 v2 : Value} (h : Step w v w1 v1) (k : Step w1 v1 w2 v2) : Step w v w2 v2 := by
  refine ⟨k.os.trans h.os, k.tape.trans h.tape, k.output.trans h.output, Nat.le_trans h.size k.size, fun j hj hv => ?_, fun g hg => ?_⟩
  · refine (k.block j (Nat.lt_of_lt_of_le hj h.size) ?_).trans (h.block j hj hv)
    intro e
    rcases h.home j e with e1 | e1
    · exact hv e1
    · omega
  · rcases k.home g hg with e | e
    · exact h.home g e
    · exact .inr (Nat.le_trans h.size e)
theorem Step.drew {w w' : World} {v v' : Value} (h : Step w v w' v') : Step w v w'.drew v' := ⟨h.os, h.tape, h.output, h.size, h.block, h.home⟩
theorem Step.alloc {w w' : World} {v v' : Value} (h : Step w v w' v') (o : Obj) : Step w v (w'.alloc o) v' :=
  ⟨h.os, h.tape, h.output, Nat.le_trans h.size (by simp), fun k hk hv => (Below.heap_alloc _ _ _ (Nat.lt_of_lt_of_le hk h.size)).trans (h.block k hk hv), h.home⟩
theorem Step.grown {w w' w2 : World} {v v' v2 : Value} (h : Step w v w' v') (hg : w'.grownBy w2 v'.ownBlock) (hat : v2.ownBlock = v'.ownBlock ∨ v2.ownBlock = some w'.heap.size) : Step w v w2 v2 := by
  refine h.trans ⟨hg.os, hg.tape, hg.output, hg.size, fun k hk hv => hg.block k hk (fun e => hv e.symm), fun g e => ?_⟩
  rcases hat with h1 | h1
  · rw [h1] at e; exact .inl e
  · rw [h1] at e
    injection e with e
    exact .inr (by omega)
/-- A slice cut short lies where it lay. -/
theorem Step.cut {w w' : World} {v v1 v2 : Value} (h : Step w v w' v1) (e : v2.ownBlock = v1.ownBlock) : Step w v w' v2 :=
  ⟨h.os, h.tape, h.output, h.size, h.block, fun g hg => h.home g (by rw [← e]; exact hg)⟩
theorem Step.cell {w w' : World} {v v' : Value} (h : Step w v w' v') {p : Addr} (hp : p.block < w.heap.size) (hv : v.ownBlock ≠ some p.block) : w'.cell? p = w.cell? p :=
  World.cell?_of_block (w := w) (h.block p.block hp hv)
theorem Step.frozen {w w' : World} {v v' : Value} (h : Step w v w' v') {p : Addr} (hp : p.block < w.heap.size) (hv : v.ownBlock ≠ some p.block) : w'.frozen? p = w.frozen? p :=
  World.frozen?_of_block (w := w) (h.block p.block hp hv)
/-- Below a block number under which v does not lie nothing has turned. -/
theorem Step.below {w w' : World} {v v' : Value} {B : Nat} (h : Step w v w' v') (hB : B ≤ w.heap.size) (hv : ∀ g, v.ownBlock = some g → B ≤ g) : Below B w w' :=
  ⟨h.os, h.tape, h.output, h.size, fun k hk => h.block k (by omega) (fun e => by have := hv k e; omega)⟩

/-- The slice v holds the bytes l, in a row of the call's own. -/
def Holds (B : Nat) (w : World) (v : Value) (l : List UInt8) : Prop := w.ownsRow B 5 1 v l.length (Lib.byteCells l)

theorem Holds.base {B : Nat} {w : World} {v : Value} {l : List UInt8} (h : Holds B w v l) : ∀ g, v.ownBlock = some g → B ≤ g ∧ g < w.heap.size := World.ownsRow.lt h
theorem Holds.alloc {B : Nat} {w : World} {v : Value} {l : List UInt8} (h : Holds B w v l) (o : Obj) : Holds B (w.alloc o) v l := World.ownsRow.alloc h o
theorem Holds.drew {B : Nat} {w : World} {v : Value} {l : List UInt8} (h : Holds B w v l) : Holds B w.drew v l := h
theorem Holds.shape {B : Nat} {w : World} {v : Value} {l : List UInt8} (h : Holds B w v l) : (v = .slice none 0 0 ∧ l = []) ∨ ∃ g cap, v = .slice (some ⟨g, 0, none⟩) l.length cap ∧ l.length ≤ cap := by
  rcases h.2 with ⟨h1, h2⟩ | ⟨g, cap, cur, hv, _, _, hc, _⟩
  · exact .inl ⟨h1, List.eq_nil_of_length_eq_zero h2⟩
  · exact .inr ⟨g, cap, hv, hc⟩
/-- What v holds stands while another block turns. -/
theorem Holds.kept {B : Nat} {w w' : World} {v : Value} {l : List UInt8} (h : Holds B w v l) (hk : ∀ g, v.ownBlock = some g → w'.heap[g]? = w.heap[g]?) : Holds B w' v l := by
  obtain ⟨h1, h2⟩ := h
  refine ⟨h1, ?_⟩
  rcases h2 with h2 | ⟨g, cap, cur, hv, hB, hg, r⟩
  · exact .inl h2
  · exact .inr ⟨g, cap, cur, hv, hB, by rw [hk g (by rw [hv]; rfl)]; exact hg, r⟩
/-- A slice cut short. -/
theorem Holds.cut {B : Nat} {w : World} {g n cap : Nat} {l m : List UInt8} (h : Holds B w (.slice (some ⟨g, 0, none⟩) n cap) l) (hm : m <+: l) : Holds B w (.slice (some ⟨g, 0, none⟩) m.length cap) m := by
  obtain ⟨r, rfl⟩ := hm
  obtain ⟨h1, h2⟩ := h
  refine ⟨by simp [Lib.byteCells], ?_⟩
  rcases h2 with ⟨h2, _⟩ | ⟨g', cap', cur, hv, hB, hg, hc, hcm, hcs, ht⟩
  · cases h2
  · injection hv with hv1 hv2 hv3
    subst hv3
    refine .inr ⟨g', cap, cur, by rw [hv1], hB, hg, by simp at hc; omega, hcm, hcs, ?_⟩
    have := congrArg (List.take m.length) ht
    simp only [Nat.mul_one] at this ⊢
    rw [List.take_take, Nat.min_eq_left (by simp)] at this
    rw [this]
    simp [Lib.byteCells]

theorem strCells_eq (s : ByteArray) : Lib.strCells s = Lib.byteCells s.data.toList := by
  simp [Lib.strCells, Lib.byteCells]

section
variable {P : Program} (w : World)
/-- 'append(dst, s...)', s a string: the law of the shelf, with where the new slice lies. -/
theorem run_str_at (B : Nat) (t u ty : TypeId) (i : TypeInfo) (ht : P.underlying t = some (.slice 5)) (hu : P.underlying u = some .string) (hi : P.info? 5 = some i) (hz : i.zero = some (.int .u8 0))
    (hsize : i.size = 1) (hby : i.bytes = 1) (v : Value) (l : List UInt8) (hown : Holds B w v l) (s : ByteArray) (hb : l.length + s.size ≤ 1099511627776) (hbase : B ≤ w.heap.size) :
    ∃ v' w', (Builtin.append_ #[t, u] ty #[v, .string s]).run P w = .ok v' w' ∧ Holds B w' v' (l ++ s.data.toList) ∧ Step w v w' v' := by
  obtain ⟨v', w', hr, ho, hg, hn⟩ := Lib.run_append_own_string (P := P) w B t u ty 5 i ht hu hi hz hsize hby v l.length (Lib.byteCells l) hown s (by unfold maxLen; omega) (by omega) hbase
  refine ⟨v', w', hr, ?_, (Step.refl w v).grown hg ?_⟩
  · unfold Holds
    have e1 : (l ++ s.data.toList).length = l.length + s.size := by simp
    have e2 : Lib.byteCells (l ++ s.data.toList) = Lib.byteCells l ++ Lib.strCells s := by rw [strCells_eq]; simp [Lib.byteCells]
    rw [e1, e2]; exact ho
  · rcases hown.2 with ⟨rfl, h0⟩ | ⟨g, cap, cur, rfl, hbg, hgc, hnc, hcm, hcs, htake⟩
    · by_cases hm : s.size = 0
      · rw [hn.2 ⟨rfl, hm⟩]; exact .inl rfl
      · have hr2 := run_append_nil_string (P := P) w t u ty 5 i (.int .u8 0) ht hu hi hz s (by omega) (by omega) (by rw [hby]; omega)
        rw [hr] at hr2
        injection hr2 with e1 e2
        rw [e1]; exact .inr rfl
    · by_cases hroom : l.length + s.size ≤ cap
      · have hr2 := Lib.run_append_room_string (P := P) w t u ty 5 i ht hu hi hsize g l.length cap cur hgc s hroom (by omega)
        rw [hr] at hr2
        injection hr2 with e1 e2
        rw [e1]; exact .inl rfl
      · have holds : ∀ j u, (Lib.byteCells l)[j]? = some u → w.cell? ((⟨g, 0, none⟩ : Addr).add j) = some u := World.ownsRow.cells hown (g := g) rfl
        have hr2 := Lib.run_append_grow_string (P := P) w t u ty 5 i (.int .u8 0) ht hu hi hz ⟨g, 0, none⟩ l.length cap (Lib.byteCells l) (by rw [hsize]; simp [Lib.byteCells]) holds s (by omega) (by omega) (by rw [hby]; exact growslice_fits (by omega) (by omega))
        rw [hr] at hr2
        injection hr2 with e1 e2
        rw [e1]; exact .inr rfl

/-- 'append(dst, c)': the literal lies in a block of its own. -/
theorem run_byte_at (B : Nat) (t ty : TypeId) (i : TypeInfo) (ht : P.underlying t = some (.slice 5)) (hi : P.info? 5 = some i) (hz : i.zero = some (.int .u8 0))
    (hsize : i.size = 1) (hby : i.bytes = 1) (v : Value) (l : List UInt8) (hown : Holds B w v l) (c : UInt8) (hb : l.length + 1 ≤ 1099511627776) (hbase : B ≤ w.heap.size) :
    ∃ v' w', (Builtin.append_ #[t, t] ty #[v, .slice (some ⟨w.heap.size, 0, none⟩) 1 1]).run P (w.alloc (.cells #[.int .u8 (c.toNat : Int)] 5)) = .ok v' w' ∧ Holds B w' v' (l ++ [c]) ∧ Step w v w' v' ∧
      ∃ g cap, v' = .slice (some ⟨g, 0, none⟩) (l.length + 1) cap := by
  obtain ⟨v', w', hr, ho, hg, hn, hat⟩ := run_append_own_at (P := P) (w.alloc (.cells #[.int .u8 (c.toNat : Int)] 5)) B t ty 5 i (.int .u8 0) 1 1 ht hi hz hsize hby rfl (by decide) v l.length (Lib.byteCells l) (hown.alloc _)
    ⟨w.heap.size, 0, none⟩ 1 1 [.int .u8 (c.toNat : Int)] rfl (fun j u hj => by
      match j, hj with
      | 0, hj => simp at hj; subst hj; simp [Addr.add]) (fun u hu => by simp at hu; subst hu; rfl) (by unfold maxLen; omega) (by omega) (by simp; omega)
  have h2 : Holds B w' v' (l ++ [c]) := by
    unfold Holds
    have e1 : (l ++ [c]).length = l.length + 1 := by simp
    have e2 : Lib.byteCells (l ++ [c]) = Lib.byteCells l ++ [.int .u8 (c.toNat : Int)] := by simp [Lib.byteCells]
    rw [e1, e2]; exact ho
  refine ⟨v', w', hr, h2, ?_, ?_⟩
  · have h1 : Step w v (w.alloc (.cells #[.int .u8 (c.toNat : Int)] 5)) v := (Step.refl w v).alloc _
    exact h1.grown hg hat
  · rcases h2.shape with ⟨_, h⟩ | ⟨g, cap, h, _⟩
    · simp at h
    · exact ⟨g, cap, by simpa using h⟩
end

theorem wpList_byte {P : Program} {w : World} {ops : Array Oper} {rest : List Oper} {o : Oper} {a : Act} {Q : Exit → Act → World → Prop} (hgd : o.guard = none) (s x : Operand) (t : TypeId)
    (ho : o.op = .call { callee := .builtin .append, args := #[s, x], argTypes := #[t, t] })
    (B : Nat) (i : TypeInfo) (ht : P.underlying t = some (.slice 5)) (hi : P.info? 5 = some i) (hz : i.zero = some (.int .u8 0)) (hsize : i.size = 1) (hby : i.bytes = 1)
    (v : Value) (l : List UInt8) (hown : Holds B w v l) (c : UInt8) (hb : l.length + 1 ≤ 1099511627776) (hbase : B ≤ w.heap.size)
    (hs : a.eval s = v) (hx : a.eval x = .slice (some ⟨w.heap.size, 0, none⟩) 1 1)
    (h : ∀ g m cap w', Hid (Holds B w' (.slice (some ⟨g, 0, none⟩) m cap) (l ++ [c])) → Hid (Step w v w' (.slice (some ⟨g, 0, none⟩) m cap)) → wpList P ops Q rest (a.put o.dst (.slice (some ⟨g, 0, none⟩) m cap)) w') :
    wpList P ops Q (o :: rest) a (w.alloc (.cells #[.int .u8 (c.toNat : Int)] 5)) := by
  refine wpList_plain hgd fun K hK => ?_
  obtain ⟨v', w', hr, h1, h2, g, cap, rfl⟩ := run_byte_at (P := P) w B t o.type i ht hi hz hsize hby v l hown c hb hbase
  unfold Oper.wp
  simp [execOp, ho, resolve, invoke, builtin, hs, hx, hr, Result.andThen]
  exact hK _ _ (h g _ cap w' h1 h2)

theorem wpList_str {P : Program} {w : World} {ops : Array Oper} {rest : List Oper} {o : Oper} {a : Act} {Q : Exit → Act → World → Prop} (hgd : o.guard = none) (sl x : Operand) (t u : TypeId)
    (ho : o.op = .call { callee := .builtin .append, args := #[sl, x], argTypes := #[t, u] })
    (B : Nat) (i : TypeInfo) (ht : P.underlying t = some (.slice 5)) (hu : P.underlying u = some .string) (hi : P.info? 5 = some i) (hz : i.zero = some (.int .u8 0)) (hsize : i.size = 1) (hby : i.bytes = 1)
    (v : Value) (l : List UInt8) (hown : Holds B w v l) (s : ByteArray) (hb : l.length + s.size ≤ 1099511627776) (hbase : B ≤ w.heap.size)
    (hs : a.eval sl = v) (hx : a.eval x = .string s) (T : List UInt8) (hT : s.data.toList = T)
    (h : ∀ v' w', Hid (Holds B w' v' (l ++ T)) → Hid (Step w v w' v') → wpList P ops Q rest (a.put o.dst v') w') :
    wpList P ops Q (o :: rest) a w := by
  refine wpList_plain hgd fun K hK => ?_
  obtain ⟨v', w', hr, h1, h2⟩ := run_str_at (P := P) w B t u o.type i ht hu hi hz hsize hby v l hown s hb hbase
  unfold Oper.wp
  simp [execOp, ho, resolve, invoke, builtin, hs, hx, hr, Result.andThen]
  exact hK _ _ (h v' w' (hT ▸ h1) h2)
end Go.Proofs.Qxb6000821a
