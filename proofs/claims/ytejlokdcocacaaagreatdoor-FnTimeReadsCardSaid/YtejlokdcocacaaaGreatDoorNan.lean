/- impl's Nanos and PrecisionNanos, with their deferred closures. -/
import Derived.Test.YtejlokdcocacaaaGreatDoorTm
import Derived.Defers
import Derived.Recover
import Derived.Laws.Pointers
import Derived.Laws.NewBlocks
namespace Go.Proofs.YtejlokdcocacaaaGreatDoor
open Go.RowKit

theorem makeFunc_any (fn : Fn) (first cap : Array Value) (w : World) : (Instr.makeFunc fn first cap).run Tryz.prog w = .ok (.func fn first cap) w := rfl

set_option maxHeartbeats 400000 in
theorem catch16 (p q : Addr) (w : World) : CallsD Tryz.prog 16 #[.pointer (some p), .pointer (some q)] .returning w fun e u' w' => e = .returned (.tuple #[]) ∧ u' = .returning ∧ w' = w := by
  refine callsD_of_wpS Tryz.func16 rfl fun c₀ cs hu => ?_
  apply wpS_seq
  apply wpS_region
  simp [wpOpsS, go_sem, recoverD, hu, Tryz.ntmps16, Exit.thenS]
  refine wpS_cond (t := false) (by simp [Act.eval, Array.replicate]) ?_
  simp only [Bool.false_eq_true, if_false]
  refine wpS_of_wp (wp_skip ?_)
  cases c₀
  simp_all [bodyPostS, results, Tryz.results16]

set_option maxHeartbeats 400000 in
theorem catch18 (p q : Addr) (w : World) : CallsD Tryz.prog 18 #[.pointer (some p), .pointer (some q)] .returning w fun e u' w' => e = .returned (.tuple #[]) ∧ u' = .returning ∧ w' = w := by
  refine callsD_of_wpS Tryz.func18 rfl fun c₀ cs hu => ?_
  apply wpS_seq
  apply wpS_region
  simp [wpOpsS, go_sem, recoverD, hu, Tryz.ntmps18, Exit.thenS]
  refine wpS_cond (t := false) (by simp [Act.eval, Array.replicate]) ?_
  simp only [Bool.false_eq_true, if_false]
  refine wpS_of_wp (wp_skip ?_)
  cases c₀
  simp_all [bodyPostS, results, Tryz.results18]

set_option maxHeartbeats 400000 in
theorem catch11 (p q r : Addr) (w : World) : CallsD Tryz.prog 11 #[.pointer (some p), .pointer (some q), .pointer (some r)] .returning w fun e u' w' => e = .returned (.tuple #[]) ∧ u' = .returning ∧ w' = w := by
  refine callsD_of_wpS Tryz.func11 rfl fun c₀ cs hu => ?_
  apply wpS_seq
  apply wpS_region
  simp [wpOpsS, go_sem, recoverD, hu, Tryz.ntmps11, Exit.thenS]
  refine wpS_cond (t := false) (by simp [Act.eval, Array.replicate]) ?_
  simp only [Bool.false_eq_true, if_false]
  refine wpS_of_wp (wp_skip ?_)
  cases c₀
  simp_all [bodyPostS, results, Tryz.results11]

set_option maxHeartbeats 800000 in
theorem precNanos_any {w : World} (p : Nat) (hp : p ≤ 3) : Calls Tryz.prog 8 #[.int .i64 p] w fun e w' => e = .returned (.tuple #[.int .i64 (ticksOf p), .bool true]) ∧ Below w.heap.size w w' := by
  have hd := fun w' => duration_any (w := w') p hp
  have hmf := makeFunc_any
  have HD := hid hd
  clear hd
  have hp2 : (p : Int) ≤ 255 := by omega
  go_enter_defers Tryz.func8, Tryz.ntmps8
  go_wp2_with fail
  refine (HD.out _).mono ?_; rintro e w1 ⟨rfl, rfl⟩
  go_wp2_with fail
  refine leaves_cons (f := 18) (args := #[.pointer (some ⟨w.heap.size, 0, none⟩), .pointer (some ⟨w.heap.size + 1, 0, none⟩)]) (by simp) (by simp [go_sem]) ?_
  refine (catch18 _ _ _).mono ?_
  rintro e u' w'' ⟨rfl, rfl, rfl⟩
  simp [Leaves, settle, results, Tryz.results8, go_sem]
  go_grown

set_option maxHeartbeats 800000 in
theorem nanos_any {w : World} (p : Nat) (hp : p ≤ 3) (x : Int) : Calls Tryz.prog 7 #[.int .i64 p, .int .i64 x] w fun e w' => e = .returned (.tuple #[.int .i64 (nanosOf p x).1, .bool (nanosOf p x).2]) ∧ Below w.heap.size w w' := by
  have hd := fun w' => doorNanos_any (w := w') p hp x
  have hmf := makeFunc_any
  have HD := hid hd
  clear hd
  generalize nanosOf p x = r at *
  obtain ⟨n, ok⟩ := r
  cases ok
  all_goals
    simp only at HD ⊢
    have hp2 : (p : Int) ≤ 255 := by omega
    go_enter_defers Tryz.func7, Tryz.ntmps7
    go_wp2_with fail
    refine (HD.out _).mono ?_; rintro e w1 ⟨rfl, rfl⟩
    go_wp2_with fail
    refine leaves_cons (f := 16) (args := #[.pointer (some ⟨w.heap.size, 0, none⟩), .pointer (some ⟨w.heap.size + 1, 0, none⟩)]) (by simp) (by simp [go_sem]) ?_
    refine (catch16 _ _ _).mono ?_
    rintro e u' w'' ⟨rfl, rfl, rfl⟩
    simp [Leaves, settle, results, Tryz.results7, go_sem]
    go_grown
end Go.Proofs.YtejlokdcocacaaaGreatDoor
