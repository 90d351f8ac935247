import Derived.Test.Qxb6000821aRows
import Derived.JoinedOf
import Derived.KernelRfl
namespace Go.Proofs.Qxb6000821a
open Go

/-! The row's closed facts, each a lemma of its own. The three that read the dump's head word by word are drawn from its first three words. -/
theorem words_cut : ∀ (a b : List Char), (∀ c ∈ a, c ≠ ' ') → wordsSigns (a ++ ' ' :: b) = a :: wordsSigns b
  | [], b, _ => by simp [wordsSigns]
  | c :: a, b, h => by
    have hc : c ≠ ' ' := h c (by simp)
    have ih := words_cut a b (fun d hd => h d (by simp [hd]))
    rw [List.cons_append]
    conv => lhs; unfold wordsSigns
    split
    · rename_i he; cases he
    · rename_i he; injection he with h1 h2; exact absurd h1 hc
    · rename_i r _ he
      injection he with h1 h2
      subst h1 h2
      rw [ih]

theorem hex_ne {c : Char} (h : (('0' ≤ c && c ≤ '9') || ('a' ≤ c && c ≤ 'f')) = true) : c ≠ ' ' := by
  rintro rfl
  revert h
  decide

theorem head_words (l : List Char) (n1 : l.take 8 = ['h', 'a', 'r', 'n', 'e', 's', 's', ' ']) (n2 : isSumSigns ((l.drop 8).take 64) = true) (n3 : ((l.drop 8).drop 64).take 5 = [' ', 'c', 'u', 't', ' ']) :
    behindMainWord (wordsSigns l) = ['c', 'u', 't'] :: wordsSigns (((l.drop 8).drop 64).drop 5) := by
  have e : l = ['h', 'a', 'r', 'n', 'e', 's', 's'] ++ ' ' :: ((l.drop 8).take 64 ++ ' ' :: (['c', 'u', 't'] ++ ' ' :: ((l.drop 8).drop 64).drop 5)) := by
    have h1 := List.take_append_drop 8 l
    have h2 := List.take_append_drop 64 (l.drop 8)
    have h3 := List.take_append_drop 5 ((l.drop 8).drop 64)
    rw [n3] at h3
    rw [n1] at h1
    conv => lhs; rw [← h1, ← h2, ← h3]
    simp
  have n2' := n2
  unfold isSumSigns at n2'
  simp only [Bool.and_eq_true, List.all_eq_true] at n2'
  have e1 : wordsSigns l = ['h', 'a', 'r', 'n', 'e', 's', 's'] :: (l.drop 8).take 64 :: ['c', 'u', 't'] :: wordsSigns (((l.drop 8).drop 64).drop 5) := by
    conv => lhs; rw [e]
    rw [words_cut _ _ (by decide), words_cut _ _ (fun c hc => hex_ne (n2'.2 c hc)), words_cut _ _ (by decide)]
  rw [e1]
  have k1 : ((['h', 'a', 'r', 'n', 'e', 's', 's'] : List Char) == "harness".toList) = true := by decide
  simp only [behindMainWord, n2, k1, Bool.true_or, Bool.and_self, if_true]


theorem k1 : ((['c', 'u', 't'] : List Char) == "gc".toList) = false := by kernel_rfl
theorem k2 : ((['c', 'u', 't'] : List Char) == "spec".toList) = false := by kernel_rfl
theorem k3 : ((['c', 'u', 't'] : List Char) == "cut".toList) = true := by kernel_rfl
theorem k4 : ((['c', 'u', 't'] : List Char) == "carried".toList) = false := by kernel_rfl
theorem k5 (b : List (List Char)) : stripLifts liftWords (['c', 'u', 't'] :: b) = ([], ['c', 'u', 't'] :: b) := by
  kernel_rfl
theorem k6 : (some (['c', 'u', 't'] : List Char) == some "cut".toList) = true := by kernel_rfl
theorem make_of {P : Program} {b : List (List Char)} (hb : behindMainWord (wordsSigns P.initOrder.toList) = ['c', 'u', 't'] :: b) : P.make = some Make.cut := by
  simp only [Program.make, hb, k1, k2, k3, Bool.or_self, Bool.false_eq_true, if_false, Bool.true_or, if_true]
theorem lifts_of {P : Program} {b : List (List Char)} (hb : behindMainWord (wordsSigns P.initOrder.toList) = ['c', 'u', 't'] :: b) : P.liftsFinal = false := by
  have k7 : (some (['c', 'u', 't'] : List Char) == some "carried".toList) = false := by kernel_rfl
  simp only [Program.liftsFinal, Program.headLifts, hb, k5, k6, k7, List.head?_cons, Bool.false_and, Bool.false_or, if_true]
  rfl
theorem enter_of {P : Program} {b : List (List Char)} (hb : behindMainWord (wordsSigns P.initOrder.toList) = ['c', 'u', 't'] :: b)
    (g1 : P.laysLater = false) (g2 : P.bearsReflect = false) (g4 : P.doorFits [] = true) : P.mayEnter = true := by
  simp only [Program.mayEnter, hb, k1, k2, k4, k5, k6, g1, g2, g4, Bool.or_self, Bool.false_and, Bool.false_or, List.head?_cons]
  rfl
set_option maxRecDepth 100000 in
theorem hdr : ∃ b, behindMainWord (wordsSigns Try.prog.initOrder.toList) = ['c', 'u', 't'] :: wordsSigns b := by
  have e : Try.prog.initOrder.toList = _ := (congrArg String.toList (rfl : Try.prog.initOrder = String.ofList _)).trans String.toList_ofList
  rw [e]
  exact ⟨_, head_words _ (by kernel_rfl) (by kernel_rfl) (by kernel_rfl)⟩




theorem g1 : Try.prog.laysLater = false := by kernel_rfl
theorem g2 : Try.prog.bearsReflect = false := by kernel_rfl
theorem g4 : Try.prog.doorFits [] = true := by kernel_rfl
theorem f26 : Try.prog.mayEnter = true := by
  obtain ⟨b, hb⟩ := hdr
  exact enter_of hb g1 g2 g4
theorem and_mk {a b : Bool} (ha : a = true) (hb : b = true) : (a && b) = true := by rw [ha, hb]; rfl

namespace fnAppendLeadingCanonicalSpec
theorem f28 : (Try.prog.make == some Rows.fnAppendLeadingCanonicalSpecRow.make) = true := by
  obtain ⟨b, hb⟩ := hdr
  rw [make_of hb]
  kernel_rfl
theorem f27 : (Rows.fnAppendLeadingCanonicalSpecRow.lifted == Try.prog.liftsFinal) = true := by
  obtain ⟨b, hb⟩ := hdr
  rw [lifts_of hb]
  kernel_rfl
theorem closed : joinedFacts Try.prog 5 Try.f5 Rows.fnAppendLeadingCanonicalSpecSpec Rows.fnAppendLeadingCanonicalSpecRow = true := by
  unfold joinedFacts
  refine and_mk (and_mk (and_mk (and_mk (and_mk (and_mk (and_mk (and_mk (and_mk (and_mk (and_mk (and_mk (and_mk (and_mk (and_mk (and_mk (and_mk (and_mk (and_mk (and_mk (and_mk (and_mk (and_mk (and_mk (and_mk (and_mk (and_mk (and_mk (and_mk (and_mk (and_mk ?_ ?_) ?_) ?_) ?_) ?_) ?_) ?_) ?_) ?_) ?_) ?_) ?_) ?_) ?_) ?_) ?_) ?_) ?_) ?_) ?_) ?_) ?_) ?_) ?_) f26) f27) f28) ?_) ?_) ?_) ?_
  all_goals (as_aux_lemma => kernel_rfl)
theorem funcNo : Try.prog.funcNamed Rows.fnAppendLeadingCanonicalSpecRow.func = some 5 := by kernel_rfl
end fnAppendLeadingCanonicalSpec
end Go.Proofs.Qxb6000821a
