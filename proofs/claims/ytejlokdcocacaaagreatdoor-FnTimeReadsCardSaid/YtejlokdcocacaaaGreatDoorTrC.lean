/- The law FnTimeReads: all inputs; what the listed variables give it. -/
import Derived.Test.YtejlokdcocacaaaGreatDoorTrB
import Derived.Test.YtejlokdcocacaaaGreatDoorRows
import Derived.Lib.LaidU8T
import Derived.PinnedBridge
import Derived.Stop.LaidErr
namespace Go.Proofs.YtejlokdcocacaaaGreatDoor
open Go.RowKit

set_option maxHeartbeats 1000000 in
set_option maxRecDepth 100000 in
theorem law_off {w : World} (pr x df : Int) (h : pr < 0 ∨ 3 < pr ∨ df < -9223372035854775808) :
    Calls Tryz.prog 3 #[.int .i64 pr, .int .i64 x, .int .i64 df] w fun e w' => e = .returned (.bool true) ∧ Below w.heap.size w w' := by
  by_cases h1 : pr < 0
  · clear h
    go_enter Tryz.func3, Tryz.ntmps3
    go_wp2_with fail
    go_ret
    exact ⟨rfl, Below.refl _ _⟩
  · by_cases h2 : 3 < pr
    · clear h
      go_enter Tryz.func3, Tryz.ntmps3
      go_wp2_with fail
      go_ret
      exact ⟨rfl, Below.refl _ _⟩
    · have h3 : df < -9223372035854775808 := by omega
      clear h
      go_enter Tryz.func3, Tryz.ntmps3
      go_wp2_with fail
      go_ret
      exact ⟨rfl, Below.refl _ _⟩

theorem law_all {w : World} {B : Nat} (hT : Tabs w) (hB3 : 3 < B) (hB : B ≤ w.heap.size) (hG : Glob B w) (htab : Lib.TabIs Tryz.prog w "internal/strconv.uint64pow10" .u64 Lib.pow10Tab)
    (pr x df : Int) (x0 : -9223372036854775808 ≤ x) (x1 : x ≤ 9223372036854775807) (d1 : df ≤ 9223372036854775807) :
    Calls Tryz.prog 3 #[.int .i64 pr, .int .i64 x, .int .i64 df] w fun e w' => e = .returned (.bool true) ∧ Below w.heap.size w w' := by
  by_cases h : pr < 0 ∨ 3 < pr ∨ df < -9223372035854775808
  · exact law_off pr x df h
  · obtain ⟨p, rfl⟩ : ∃ p : Nat, pr = p := ⟨pr.toNat, by omega⟩
    exact law_main hT hB3 hB hG htab p (by omega) x df x0 x1 (by omega) d1
end Go.Proofs.YtejlokdcocacaaaGreatDoor
