/-
  What the doors defer, run behind a call that returns: nothing is to be recovered and nothing turns.
  Conditions: none.
-/
import Derived.Test.YtlikpgneihjmcaaTold
import Derived.Defers
import Derived.Recover
namespace Go.Proofs.Ytlikpgneihjmcaa
open Go.RowKit

set_option maxHeartbeats 1000000 in
set_option maxRecDepth 100000 in
/-- What Add defers. -/
theorem idle10 (p q : Addr) (w : World) :
    CallsD Try.prog 10 #[.pointer (some p), .pointer (some q)] .returning w fun e u' w' => e = .returned (.tuple #[]) ∧ u' = .returning ∧ w' = w := by
  refine callsD_of_wpS Try.func10 rfl fun c₀ cs hu => ?_
  apply wpS_seq
  apply wpS_region
  simp [wpOpsS, go_sem, recoverD, hu, Try.ntmps10, Exit.thenS]
  apply wpS_seq
  apply wpS_region
  simp [wpOpsS, go_sem, Array.replicate, Exit.thenS]
  refine wpS_cond (t := false) (by simp [Act.eval]) ?_
  simp only [Bool.false_eq_true, if_false]
  refine wpS_of_wp (wp_skip ?_)
  cases c₀
  simp_all [bodyPostS, results, Try.results10]

set_option maxHeartbeats 1000000 in
set_option maxRecDepth 100000 in
/-- What Subtract defers. -/
theorem idle14 (p q : Addr) (w : World) :
    CallsD Try.prog 14 #[.pointer (some p), .pointer (some q)] .returning w fun e u' w' => e = .returned (.tuple #[]) ∧ u' = .returning ∧ w' = w := by
  refine callsD_of_wpS Try.func14 rfl fun c₀ cs hu => ?_
  apply wpS_seq
  apply wpS_region
  simp [wpOpsS, go_sem, recoverD, hu, Try.ntmps14, Exit.thenS]
  apply wpS_seq
  apply wpS_region
  simp [wpOpsS, go_sem, Array.replicate, Exit.thenS]
  refine wpS_cond (t := false) (by simp [Act.eval]) ?_
  simp only [Bool.false_eq_true, if_false]
  refine wpS_of_wp (wp_skip ?_)
  cases c₀
  simp_all [bodyPostS, results, Try.results14]

set_option maxHeartbeats 1000000 in
set_option maxRecDepth 100000 in
/-- What Multiply defers. -/
theorem idle16 (p q : Addr) (w : World) :
    CallsD Try.prog 16 #[.pointer (some p), .pointer (some q)] .returning w fun e u' w' => e = .returned (.tuple #[]) ∧ u' = .returning ∧ w' = w := by
  refine callsD_of_wpS Try.func16 rfl fun c₀ cs hu => ?_
  apply wpS_seq
  apply wpS_region
  simp [wpOpsS, go_sem, recoverD, hu, Try.ntmps16, Exit.thenS]
  apply wpS_seq
  apply wpS_region
  simp [wpOpsS, go_sem, Array.replicate, Exit.thenS]
  refine wpS_cond (t := false) (by simp [Act.eval]) ?_
  simp only [Bool.false_eq_true, if_false]
  refine wpS_of_wp (wp_skip ?_)
  cases c₀
  simp_all [bodyPostS, results, Try.results16]

set_option maxHeartbeats 1000000 in
set_option maxRecDepth 100000 in
/-- What Less defers. -/
theorem idle18 (p q : Addr) (w : World) :
    CallsD Try.prog 18 #[.pointer (some p), .pointer (some q)] .returning w fun e u' w' => e = .returned (.tuple #[]) ∧ u' = .returning ∧ w' = w := by
  refine callsD_of_wpS Try.func18 rfl fun c₀ cs hu => ?_
  apply wpS_seq
  apply wpS_region
  simp [wpOpsS, go_sem, recoverD, hu, Try.ntmps18, Exit.thenS]
  apply wpS_seq
  apply wpS_region
  simp [wpOpsS, go_sem, Array.replicate, Exit.thenS]
  refine wpS_cond (t := false) (by simp [Act.eval]) ?_
  simp only [Bool.false_eq_true, if_false]
  refine wpS_of_wp (wp_skip ?_)
  cases c₀
  simp_all [bodyPostS, results, Try.results18]

set_option maxHeartbeats 1000000 in
set_option maxRecDepth 100000 in
/-- What Equal defers. -/
theorem idle20 (p q : Addr) (w : World) :
    CallsD Try.prog 20 #[.pointer (some p), .pointer (some q)] .returning w fun e u' w' => e = .returned (.tuple #[]) ∧ u' = .returning ∧ w' = w := by
  refine callsD_of_wpS Try.func20 rfl fun c₀ cs hu => ?_
  apply wpS_seq
  apply wpS_region
  simp [wpOpsS, go_sem, recoverD, hu, Try.ntmps20, Exit.thenS]
  apply wpS_seq
  apply wpS_region
  simp [wpOpsS, go_sem, Array.replicate, Exit.thenS]
  refine wpS_cond (t := false) (by simp [Act.eval]) ?_
  simp only [Bool.false_eq_true, if_false]
  refine wpS_of_wp (wp_skip ?_)
  cases c₀
  simp_all [bodyPostS, results, Try.results20]

end Go.Proofs.Ytlikpgneihjmcaa
