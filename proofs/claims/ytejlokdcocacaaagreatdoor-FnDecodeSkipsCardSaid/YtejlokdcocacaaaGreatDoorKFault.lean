/- impl's fault: an error as data. -/
import Derived.Test.YtejlokdcocacaaaGreatDoorKDecD
import Derived.BigRegion
import Derived.LaidEql
import Derived.Outline
import Derived.Handy
import Derived.Deep.CutBlock
import Derived.Deep.DeepCutAuto
namespace Go.Proofs.YtejlokdcocacaaaGreatDoor
open Go.RowKit

/-- The package's own error: another block. -/
def Glob (B : Nat) (w : World) : Prop := ∃ (g : Addr) (c : Array Value) (t : TypeId), w.cell? ⟨1, 0, none⟩ = some (.iface 167 (.pointer (some g))) ∧ g.block < B ∧ w.heap[g.block]? = some (.cells c t (0, 0))

theorem Glob.grow {B : Nat} {w w' : World} (h : Glob B w) (k : Below w.heap.size w w') : Glob B w' := by
  obtain ⟨g, c, t, h1, h2, h3⟩ := h
  have hl : 1 < w.heap.size := by
    rcases hb : w.heap[1]? with _ | o
    · unfold World.cell? at h1; simp only [hb] at h1; simp at h1
    · exact lt_of_block hb
  exact ⟨g, c, t, (World.cell?_of_block (w := w) (a := ⟨1, 0, none⟩) (k.block 1 hl)).trans h1, h2, (k.block g.block (lt_of_block h3)).trans h3⟩

theorem ErrStr.grow {B Y : Nat} {w w' : World} (h : ErrStr B Y w) (k : Below w.heap.size w w') : ErrStr B Y w' := by
  obtain ⟨h1, s, h2⟩ := h
  exact ⟨h1, s, (k.block Y (lt_of_block h2)).trans h2⟩

noncomputable def ms57 : Array (String × TypeId) := match Tryz.prog.underlying 57 with | some (.interface ms) => ms | _ => #[]
theorem underlying57 : Tryz.prog.underlying 57 = some (.interface ms57) := by kernel_rfl
theorem underlying167 : Tryz.prog.underlying 167 = some (.pointer 169) := by kernel_rfl
theorem info167 : (Tryz.prog.info? 167).map (fun i => i.comparable) = some true := by kernel_rfl
theorem info169 : (Tryz.prog.info? 169).map (fun i => i.size) = some 1 := by kernel_rfl
theorem assert_nil (w : World) : (Instr.typeAssert .nilIface 57 129 true).run Tryz.prog w = .ok (.tuple #[.pointer none, .bool false]) w := by kernel_rfl
theorem assert_yes (p : Option Addr) (w : World) : (Instr.typeAssert (.iface 129 (.pointer p)) 57 129 true).run Tryz.prog w = .ok (.tuple #[.pointer p, .bool true]) w := by kernel_rfl

set_option maxHeartbeats 1000000 in
theorem outside_any {w : World} {B Y : Nat} (hg : Glob B w) (hY : ErrStr B Y w) : Calls Tryz.prog 60 #[.iface 167 (.pointer (some ⟨Y, 0, none⟩))] w fun e w' => e = .returned (.bool false) ∧ w' = w := by
  obtain ⟨g, c, t, hc, hlt, hg2⟩ := hg
  obtain ⟨hY1, s, hY2⟩ := hY
  have hu := underlying57
  obtain ⟨i, hi1, hi2⟩ := Option.map_eq_some_iff.1 info167
  obtain ⟨j, hj1, hj3⟩ := Option.map_eq_some_iff.1 info169
  have hj2 : j.size ≠ 0 := by omega
  have hne : (⟨Y, 0, none⟩ : Addr) ≠ g := by
    intro e
    have h2 : Y = g.block := congrArg Addr.block e
    omega
  have heq := run_eql_iface_ptr_other (P := Tryz.prog) w hu underlying167 hi1 hi2 hj1 hj2 hne hY2 hg2
  clear hlt hY1 hne hu hi1 hi2 hj1 hj2 hY2 hg2
  go_enter Tryz.func60, Tryz.ntmps60
  go_wp2
  go_ret
  exact ⟨rfl, rfl⟩

set_option maxHeartbeats 1000000 in
theorem outside_nil (w : World) : Calls Tryz.prog 60 #[.nilIface] w fun e w' => e = .returned (.bool false) ∧ w' = w := by
  go_enter Tryz.func60, Tryz.ntmps60
  go_wp2
  go_ret
  exact ⟨rfl, rfl⟩

set_option maxHeartbeats 1000000 in
set_option maxRecDepth 100000 in
theorem fault_none (w : World) : Calls Tryz.prog 30 #[.nilIface] w fun e w' => e = .returned (.agg #[.bool false, .int .i64 0, .int .i64 0, .bool false]) ∧ Below w.heap.size w w' := by
  have ha := assert_nil
  go_enter Tryz.func30, Tryz.ntmps30
  go_wp2_with (go_at_call 60; refine (outside_nil _).mono ?_; rintro e w1 ⟨rfl, rfl⟩)
  refine bodyPost_ret (by simp [results, Tryz.results30, go_sem]; try rfl) rfl ?_
  exact ⟨rfl, by go_grown⟩

set_option maxHeartbeats 2000000 in
set_option maxRecDepth 100000 in
theorem fault_some {w : World} {B : Nat} {f : Flt} {v : Value} (hg : Glob B w) (hE : ErrIs B f w v) : Calls Tryz.prog 30 #[v] w fun e w' => e = .returned (.agg #[.bool true, .int .i64 f.line, .int .i64 f.col, .bool false]) ∧ Below w.heap.size w w' := by
  obtain ⟨X, Y, rfl, hx, h1, hY⟩ := hE
  have hXl := lt_of_block hx
  have x0 : w.cell? ⟨X, 0, none⟩ = some (.int .i64 f.line) := cell_of_row w X 0 _ _ _ hx
  have x1 : w.cell? ⟨X, 1, none⟩ = some (.int .i64 f.col) := cell_of_row w X 1 _ _ _ hx
  have x2 : w.cell? ⟨X, 2, none⟩ = some (.iface 167 (.pointer (some ⟨Y, 0, none⟩))) := cell_of_row w X 2 _ _ _ hx
  have ha := assert_yes
  have HG := hid hg
  have HY := hid hY
  clear hg hY hx h1
  go_enter Tryz.func30, Tryz.ntmps30
  go_upto_region 4 with fail
  go_region
  go_wp2_with fail
  refine (outside_any (HG.out.grow ?b1) (HY.out.grow ?b2)).mono ?_
  case b1 => go_grown
  case b2 => go_grown
  rintro e w1 ⟨rfl, rfl⟩
  go_wp2_with fail
  refine bodyPost_ret (by simp [results, Tryz.results30, go_sem]; try rfl) rfl ?_
  exact ⟨rfl, by go_grown⟩
end Go.Proofs.YtejlokdcocacaaaGreatDoor
