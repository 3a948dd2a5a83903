/- DoorTime. -/
import Derived.Test.YtejlokdcocacaaaGreatDoorDtm
namespace Go.Proofs.YtejlokdcocacaaaGreatDoor
open Go.RowKit

theorem ticks_pos (p : Nat) : 0 < ticksOf p := by rcases ticks_cases p with h | h | h | h <;> rw [h] <;> decide

theorem epoch_trunc (p : Nat) (ns : Int) : epoch + ns - (epoch + ns) % ticksOf p = epoch + (ns - ns % ticksOf p) := by
  unfold epoch
  rcases ticks_cases p with h | h | h | h <;> rw [h] <;> omega

section
variable {w : World} {B D T E E0 : Nat} {w0 : World} {m a : MSt}

set_option maxHeartbeats 1600000 in
set_option maxRecDepth 100000 in
theorem door_ok (h : Dc B D T E0 w0 m E w) (p : Nat) (hp : p ≤ 3) (ns : Int) (d0 : -9223372036854775808 ≤ ns) (d1 : ns ≤ 9223372036854775807) {l : List UInt8} {x n : Int}
    (ht : timeOf (toK 3 m).2 (toK 3 m).1 = (a, .ok l)) (hl : l ≠ []) (hll : l.length ≤ 900) (hx : Lib.parseIntB 64 l = .ok x) (hn : nanosOf p x = (n, true)) (n0 : -9223372036854775808 ≤ n) (n1 : n ≤ 9223372036854775807) :
    Calls Tryz.prog 36 #[.pointer (some ⟨D, 0, none⟩), .int .u8 p, .int .i64 ns] w fun e w' => e = .returned (.tuple #[.int .i64 n, .nilIface]) ∧ ∃ E', Dc B D T E0 w0 a E' w' := by
  have HT := fun (w1 : World) (h1 : Dc B D T E0 w0 m E w1) => time83_ok h1 p hp (epoch + ns) ht hl hll hx hn n0 n1
  have HT := hid HT
  have H := hid h
  clear h ht hl hx hn hll
  go_enter Tryz.func36, Tryz.ntmps36
  go_wp2_with fail
  refine (unix_any ns d0 d1).mono ?_
  rintro e w1 ⟨rfl, hb1⟩
  have HD1 := hid (H.out.below hb1)
  clear hb1 H
  have HT1 := hid (HT.out _ HD1.out)
  clear HT
  go_wp2_with fail
  refine HT1.out.mono ?_
  rintro e w2 ⟨rfl, E2, hd2⟩
  have HD2 := hid hd2
  clear hd2 HD1 HT1
  have HNN := hid (nano_any (w := w2.alloc (tmO (epoch + n))) n n0 n1)
  have HD3 := hid (HD2.out.alloc (tmO (epoch + n)))
  unfold tmO at HNN HD3
  unfold tmV
  go_wp2_with fail
  refine HNN.out.mono ?_
  rintro e w3 ⟨rfl, hb3⟩
  have HD4 := hid (HD3.out.below hb3)
  clear HD3 hb3 HNN HD2
  go_wp2_with fail
  go_ret2
  exact ⟨rfl, E2, HD4.out⟩

set_option maxHeartbeats 1600000 in
set_option maxRecDepth 100000 in
theorem door_none (h : Dc B D T E0 w0 m E w) (p : Nat) (hp : p ≤ 3) (ns : Int) (d0 : -9223372035854775808 ≤ ns) (d1 : ns ≤ 9223372036854775807)
    (ht : timeOf (toK 3 m).2 (toK 3 m).1 = (a, .ok [])) :
    Calls Tryz.prog 36 #[.pointer (some ⟨D, 0, none⟩), .int .u8 p, .int .i64 ns] w fun e w' => e = .returned (.tuple #[.int .i64 (ns - ns % ticksOf p), .nilIface]) ∧ ∃ E', Dc B D T E0 w0 a E' w' := by
  have HT := fun (w1 : World) (h1 : Dc B D T E0 w0 m E w1) => time83_none h1 p hp (epoch + ns) (by unfold epoch; omega) (by unfold epoch; omega) ht
  rw [epoch_trunc] at HT
  have hb : 0 ≤ ns % ticksOf p ∧ ns % ticksOf p < 1000000000 := by rcases ticks_cases p with h | h | h | h <;> rw [h] <;> omega
  obtain ⟨n, hn⟩ : ∃ n, ns - ns % ticksOf p = n := ⟨_, rfl⟩
  have n0 : -9223372036854775808 ≤ n := by omega
  have n1 : n ≤ 9223372036854775807 := by omega
  rw [hn] at HT ⊢
  have HT := hid HT
  have H := hid h
  clear h ht hn hb
  go_enter Tryz.func36, Tryz.ntmps36
  go_wp2_with fail
  refine (unix_any ns (by omega) d1).mono ?_
  rintro e w1 ⟨rfl, hb1⟩
  have HD1 := hid (H.out.below hb1)
  clear hb1 H
  have HT1 := hid (HT.out _ HD1.out)
  clear HT
  go_wp2_with fail
  refine HT1.out.mono ?_
  rintro e w2 ⟨rfl, E2, hd2⟩
  have HD2 := hid hd2
  clear hd2 HD1 HT1
  have HNN := hid (nano_any (w := w2.alloc (tmO (epoch + n))) n n0 n1)
  have HD3 := hid (HD2.out.alloc (tmO (epoch + n)))
  unfold tmO at HNN HD3
  unfold tmV
  go_wp2_with fail
  refine HNN.out.mono ?_
  rintro e w3 ⟨rfl, hb3⟩
  have HD4 := hid (HD3.out.below hb3)
  clear HD3 hb3 HNN HD2
  go_wp2_with fail
  go_ret2
  exact ⟨rfl, E2, HD4.out⟩

/-- The error out of range. -/
def OutIs (B : Nat) (w : World) (v : Value) : Prop := ∃ (g : Addr) (c : Array Value) (t : TypeId), v = .iface 167 (.pointer (some g)) ∧ g.block < B ∧ w.heap[g.block]? = some (.cells c t (0, 0)) ∧ w.cell? ⟨1, 0, none⟩ = some (.iface 167 (.pointer (some g)))

set_option maxHeartbeats 1600000 in
set_option maxRecDepth 100000 in
theorem door_out (h : Dc B D T E0 w0 m E w) (p : Nat) (hp : p ≤ 3) (ns : Int) (d0 : -9223372036854775808 ≤ ns) (d1 : ns ≤ 9223372036854775807) {l : List UInt8} {x n : Int}
    (ht : timeOf (toK 3 m).2 (toK 3 m).1 = (a, .ok l)) (hl : l ≠ []) (hll : l.length ≤ 900) (hx : Lib.parseIntB 64 l = .ok x) (hn : nanosOf p x = (n, false)) (hg : Glob B w0) :
    Calls Tryz.prog 36 #[.pointer (some ⟨D, 0, none⟩), .int .u8 p, .int .i64 ns] w fun e w' => ∃ v, e = .returned (.tuple #[.int .i64 0, v]) ∧ OutIs B w' v ∧ ∃ E', Dc B D T E0 w0 a E' w' := by
  have HT := fun (w1 : World) (h1 : Dc B D T E0 w0 m E w1) => time83_out h1 p hp (epoch + ns) ht hl hll hx hn hg
  have HT := hid HT
  have H := hid h
  clear h ht hl hx hn hll hg
  go_enter Tryz.func36, Tryz.ntmps36
  go_wp2_with fail
  refine (unix_any ns d0 d1).mono ?_
  rintro e w1 ⟨rfl, hb1⟩
  have HD1 := hid (H.out.below hb1)
  clear hb1 H
  have HT1 := hid (HT.out _ HD1.out)
  clear HT
  go_wp2_with fail
  refine HT1.out.mono ?_
  rintro e w2 ⟨g, c, t, rfl, hgB, hg3, hg4, E2, hd2⟩
  have HD2 := hid hd2
  have HG3 := hid hg3
  have HG4 := hid hg4
  clear hd2 HD1 HT1 hg3 hg4
  have HD3 := hid (HD2.out.alloc (tmO 0))
  have HO : Hid (OutIs B (w2.alloc (tmO 0)) (.iface 167 (.pointer (some g)))) := by
    refine hid ⟨g, c, t, rfl, hgB, (Below.heap_alloc _ _ _ (lt_of_block HG3.out)).trans HG3.out, ?_⟩
    have hl1 : 1 < w2.heap.size := by have := HD2.out.b4; have := lt_of_block HG3.out; have := HD2.out.bd; have := HD2.out.dlt; have := HD2.out.st.size; omega
    exact (World.cell?_of_block (w := w2) (a := ⟨1, 0, none⟩) (Below.heap_alloc _ _ _ hl1)).trans HG4.out
  unfold tmO at HO HD3
  clear HG3 HG4
  unfold tmV
  go_wp2_with fail
  go_ret2
  exact ⟨_, rfl, HO.out, E2, HD3.out⟩
end
end Go.Proofs.YtejlokdcocacaaaGreatDoor
