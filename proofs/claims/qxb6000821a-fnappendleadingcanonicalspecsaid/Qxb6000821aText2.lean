import Derived.Test.Qxb6000821aText
namespace Go.Proofs.Qxb6000821a
open Go.RowKit

/-- Whether the form has a spelling of an element, and which. -/
def elOk (ch : UInt8 → UInt8) (t : List UInt8) (br : Bool) : Bool := if br = true then digs t else okT ch t && !(out ch t).isEmpty
def elOut (ch : UInt8 → UInt8) (t : List UInt8) (br : Bool) : List UInt8 := if br = true then t else out ch t

def TextP (B : Nat) (ok : Bool) (o : List UInt8) (D l S : List UInt8) (v : Value) (w : World) (e : Ending) (w' : World) : Prop :=
  ∃ v' at', e = .returned (.tuple #[v', .int .i64 at', .bool ok]) ∧ Step w v w' v' ∧
    (ok = true → at' = atOf l (S ++ o) ∧ Holds B w' v' (hold D l (S ++ o))) ∧ (ok = false → ∃ Y, hold D l S <+: Y ∧ Holds B w' v' Y)

set_option maxHeartbeats 400000 in
theorem text_br (B fb : Nat) (D l S : List UInt8) (v : Value) (nm s : ByteArray) (t : List UInt8) (w : World) (hl : l = nm.data.toList) (ht : t = s.data.toList) (hn : nm.size ≤ 1048576) (hs : s.size ≤ 1048576)
    (hD : D.length ≤ 1048576) (hS : S.length + t.length ≤ 4194304) (hB : B ≤ w.heap.size) (hv : Holds B w v (hold D l S)) :
    Calls Try.prog 30 #[.pointer (some ⟨fb, 0, none⟩), v, .int .i64 (atOf l S), .string nm, .agg #[.string s, .bool true]] w (TextP B (digs t) t D l S v w) := by
  have HDG : Hid (∀ w : World, Calls Try.prog 33 #[.string s] w fun e w' => e = .returned (.bool (digs t)) ∧ w' = w) := fun w => digits_any s t w ht hs
  have HSS : Hid (Calls Try.prog 29 #[v, .int .i64 (atOf l S), .string nm, .string s] (w.alloc (.cells #[.string s, .bool true] 45))
      fun e w' => ∃ v', e = .returned (.tuple #[v', .int .i64 (atOf l (S ++ t))]) ∧ Holds B w' v' (hold D l (S ++ t)) ∧ Step (w.alloc (.cells #[.string s, .bool true] 45)) v w' v') :=
    string_any B D l S v nm s t _ hl ht hn hD (by omega) (by simp; omega) (hv.alloc _)
  have HV : Hid (Holds B w v (hold D l S)) := hv
  unfold TextP
  clear hl ht hv
  cases hd : digs t with
  | false =>
    rw [hd] at HDG
    go_enter Try.func30, Try.ntmps30
    go_wp2_with (first | (go_at_call 33; refine (HDG.out _).mono ?_; rintro e w1 ⟨rfl, rfl⟩))
    go_ret3
    exact ⟨v, atOf l S, rfl, (Step.refl _ _).alloc _, fun h => (by cases h), fun _ => ⟨_, List.prefix_refl _, HV.out.alloc _⟩⟩
  | true =>
    rw [hd] at HDG
    go_enter Try.func30, Try.ntmps30
    go_wp2_with (first | (go_at_call 33; refine (HDG.out _).mono ?_; rintro e w1 ⟨rfl, rfl⟩))
    refine HSS.out.mono ?_
    rintro e w1 ⟨v1, rfl, h1, h2⟩
    have H1 : Hid (Holds B w1 v1 (hold D l (S ++ t))) := h1
    have H2 : Hid (Step w v w1 v1) := ((Step.refl _ _).alloc _).trans h2
    clear h1 h2
    go_wp2
    go_ret3
    exact ⟨v1, atOf l (S ++ t), rfl, H2.out, fun _ => ⟨rfl, H1.out⟩, fun h => by cases h⟩

theorem text_any (B fb : Nat) (ch : UInt8 → UInt8) (sep op cl : ByteArray) (D l S : List UInt8) (v : Value) (nm s : ByteArray) (t : List UInt8) (br : Bool) (w : World) (hl : l = nm.data.toList) (ht : t = s.data.toList) (hn : nm.size ≤ 1048576) (hs : s.size ≤ 1048576)
    (hD : D.length ≤ 1048576) (hS : S.length + t.length ≤ 4194304) (hB : B ≤ w.heap.size) (hv : Holds B w v (hold D l S)) (hvf : v.ownBlock ≠ some fb)
    (hf : FormAt w fb ch sep op cl) (hp : br = false → pre l S = true → pre l (S ++ t) = true) (h255 : ∀ c ∈ t, c ≠ 255) :
    Calls Try.prog 30 #[.pointer (some ⟨fb, 0, none⟩), v, .int .i64 (atOf l S), .string nm, .agg #[.string s, .bool br]] w (TextP B (elOk ch t br) (elOut ch t br) D l S v w) := by
  cases br with
  | true => exact text_br B fb D l S v nm s t w hl ht hn hs hD hS hB hv
  | false =>
    cases hps : pre l S with
    | false =>
      rw [atOf_no hps]
      exact text_off B fb ch sep op cl D l S v nm s t w hl ht hn hs hD hS hB hv hvf hf hps
    | true =>
      rw [atOf_yes hps]
      exact text_on B fb ch sep op cl D l S v nm s t w hl ht hn hs hD hS hB hv hvf hf (hp rfl hps) h255
end Go.Proofs.Qxb6000821a
