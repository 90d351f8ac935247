import Derived.Test.Qxb6000821aTabP
namespace Go.Proofs.Qxb6000821a
open Go.RowKit
attribute [-simp] Try.isAgg22 Try.sizeOf22 Try.runUnderlying22

set_option maxHeartbeats 1000000 in
set_option maxRecDepth 100000 in
theorem ident_any (w : World) :
    Calls Try.prog 13 #[] w fun e w' => e = .returned (.agg (tab id 256)) ∧ Below w.heap.size w w' := by
  have hz := zero22 id
  go_enter Try.func13, Try.ntmps13
  go_wp2
  go_loopg [2] 256 (fun g s2 wx => ∃ i : Nat, i + g = 256 ∧ s2 = .int .i64 i ∧ wx = (w.alloc (.cells (tab id 0) 22)).alloc (.cells (tab id i) 22))
  case atStart => exact ⟨0, by omega, rfl, rfl⟩
  case round =>
    obtain ⟨i, hig, rfl, rfl⟩ := hrel
    have hsz : (tab id i).size = 256 := tab_size _ _
    cases gk with
    | zero =>
      obtain rfl : i = 256 := by omega
      have hlc : (loadCellsFrom ⟨w.heap.size + 1, 0, none⟩ 0 256 #[]).run Try.prog ((w.alloc (.cells (tab id 0) 22)).alloc (.cells (tab id 256) 22)) = .ok (tab id 256) ((w.alloc (.cells (tab id 0) 22)).alloc (.cells (tab id 256) 22)) := by
        simpa using run_loadCellsFrom_new (P := Try.prog) (w.alloc (.cells (tab id 0) 22)) 22 (tab id 256) 256 hsz
      have hst := store_old w (tab id 0) (tab id 256) (.cells (tab id 256) 22) (by simp [tab_size]) (tab_size _ _) (tab_one _ _)
      have hld := load_old w (tab id 256) (.cells (tab id 256) 22) (tab_size _ _)
      go_wp2
      simp only [Try.isAgg22, Try.sizeOf22, Result.andThen, ↓reduceIte, hlc]
      rw [Oper.upon_value]
      go_wp2
      simp only [Try.sizeOf22, Result.andThen, ↓reduceIte, hst]
      rw [Oper.upon_skip]
      go_wp2
      (try simp only [Exit.inBlock, Exit.then])
      refine bodyPost_ret (v := .agg (tab id 256)) ?_ rfl ⟨rfl, ?_⟩
      · simp [results, Try.results13, asAddr, Act.put, hld]
      · exact ((Below.refl _ _).alloc (Nat.le_refl _) _).alloc (by simp) _
    | succ g =>
      have hi : i < 256 := by omega
      have hiz : (i : Int) < 256 := by omega
      have hmod := wrap8 i hi
      go_wp2
      go_roundg g
      case measure => omega
      case rel => 
        refine ⟨i + 1, by omega, by first | rfl | simp, ?_⟩
        rw [← tab_snoc id i, id8 i hi]

set_option maxHeartbeats 4000000 in
set_option maxRecDepth 100000 in
theorem canon_any (w : World) :
    Calls Try.prog 16 #[] w fun e w' => e = .returned (.agg (tab cch 256)) ∧ Below w.heap.size w w' := by
  have hz := zero22 cch
  go_enter Try.func16, Try.ntmps16
  go_wp2
  go_loopg [2] 256 (fun g s2 wx => ∃ i : Nat, i + g = 256 ∧ s2 = .int .i64 i ∧ wx = (w.alloc (.cells (tab cch 0) 22)).alloc (.cells (tab cch i) 22))
  case atStart => exact ⟨0, by omega, rfl, rfl⟩
  case round =>
    obtain ⟨i, hig, rfl, rfl⟩ := hrel
    have hsz : (tab cch i).size = 256 := tab_size _ _
    cases gk with
    | zero =>
      obtain rfl : i = 256 := by omega
      have hlc : (loadCellsFrom ⟨w.heap.size + 1, 0, none⟩ 0 256 #[]).run Try.prog ((w.alloc (.cells (tab cch 0) 22)).alloc (.cells (tab cch 256) 22)) = .ok (tab cch 256) ((w.alloc (.cells (tab cch 0) 22)).alloc (.cells (tab cch 256) 22)) := by
        simpa using run_loadCellsFrom_new (P := Try.prog) (w.alloc (.cells (tab cch 0) 22)) 22 (tab cch 256) 256 hsz
      have hst := store_old w (tab cch 0) (tab cch 256) (.cells (tab cch 256) 22) (by simp [tab_size]) (tab_size _ _) (tab_one _ _)
      have hld := load_old w (tab cch 256) (.cells (tab cch 256) 22) (tab_size _ _)
      go_wp2
      simp only [Try.isAgg22, Try.sizeOf22, Result.andThen, ↓reduceIte, hlc]
      rw [Oper.upon_value]
      go_wp2
      simp only [Try.sizeOf22, Result.andThen, ↓reduceIte, hst]
      rw [Oper.upon_skip]
      go_wp2
      (try simp only [Exit.inBlock, Exit.then])
      refine bodyPost_ret (v := .agg (tab cch 256)) ?_ rfl ⟨rfl, ?_⟩
      · simp [results, Try.results16, asAddr, Act.put, hld]
      · exact ((Below.refl _ _).alloc (Nat.le_refl _) _).alloc (by simp) _
    | succ g =>
      have hi : i < 256 := by omega
      have hiz : (i : Int) < 256 := by omega
      have hmod := wrap8 i hi
      have HT : Hid ((tab cch i).setIfInBounds i (.int .u8 (cn i : Nat)) = tab cch (i + 1)) := by
        have := tab_snoc cch i
        rw [cch_at i hi] at this
        exact this
      by_cases h45 : i = 45
      · subst h45
        have hc : (tab cch 45)[45]? = some (.int .u8 0) := by
          unfold tab
          simp
        go_wp2_with (go_at_call 26; refine (isDigit_any 45 false (by decide) _).mono ?_; rintro e w' ⟨rfl, rfl⟩)
        go_wp2
        go_roundg g
        case measure => omega
        case rel =>
          refine ⟨46, by omega, by first | rfl | simp, ?_⟩
          rw [← HT.out]
          rfl
      · rcases ranges i h45 with h | h | h | h | h | h | h | h
        all_goals
          first | have c1 : (97 : Int) ≤ (i : Int) := by omega | have c1 : ¬ (97 : Int) ≤ (i : Int) := by omega
          first | have c2 : (i : Int) ≤ 122 := by omega | have c2 : ¬ (i : Int) ≤ 122 := by omega
          first | have c3 : (65 : Int) ≤ (i : Int) := by omega | have c3 : ¬ (65 : Int) ≤ (i : Int) := by omega
          first | have c4 : (i : Int) ≤ 90 := by omega | have c4 : ¬ (i : Int) ≤ 90 := by omega
          have c5 : ¬ (i : Int) = 45 := by omega
          go_wp2_with (go_at_call 26; first | refine (isDigit_any i true (by simp; omega) _).mono ?_ | refine (isDigit_any i false (by simp; omega) _).mono ?_; rintro e w' ⟨rfl, rfl⟩)
          go_wp2
          go_roundg g
          case measure => omega
          case rel => 
            refine ⟨i + 1, by omega, by first | rfl | simp, ?_⟩
            rw [← HT.out]
            congr 3
            unfold cn
            repeat' split
            all_goals first | rfl | omega | (congr 1; omega)
end Go.Proofs.Qxb6000821a
