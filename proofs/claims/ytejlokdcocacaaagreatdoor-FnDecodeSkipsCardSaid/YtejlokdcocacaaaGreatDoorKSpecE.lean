/- The reference's decoder in memory; Breaks, done, next. -/
import Derived.Test.YtejlokdcocacaaaGreatDoorKSpecC
import Derived.Deep.QuietTactic
import Derived.BigQuiet
import Derived.Outline
import Derived.Test.YtejlokdcocacaaaGreatDoorKMdl
import Derived.Handy
import Derived.Deep.LoopGhost
namespace Go.Proofs.YtejlokdcocacaaaGreatDoor
open Go.RowKit

/-- Block R holds the reference's decoder: the text, the place, the part that is due, the entry's beginning. -/
def IsRd (w : World) (R : Nat) (s : ByteArray) (i p from_ : Nat) : Prop := w.heap[R]? = some (.cells #[.string s, .int .i64 (i : Int), .int .i64 (p : Int), .int .i64 (from_ : Int)] 101 (0, 0))

theorem IsRd.cells {w : World} {R : Nat} {s : ByteArray} {i p fr : Nat} (h : IsRd w R s i p fr) : w.cell? ⟨R, 0, none⟩ = some (.string s) ∧ w.cell? ⟨R, 1, none⟩ = some (.int .i64 (i : Int)) ∧ w.cell? ⟨R, 2, none⟩ = some (.int .i64 (p : Int)) ∧ w.cell? ⟨R, 3, none⟩ = some (.int .i64 (fr : Int)) ∧ (∀ o, w.frozen? ⟨R, o, none⟩ = false) :=
  ⟨cell_of_row w R 0 _ _ _ h, cell_of_row w R 1 _ _ _ h, cell_of_row w R 2 _ _ _ h, cell_of_row w R 3 _ _ _ h, fun o => frozen_of_row w R o _ _ h⟩

set_option maxHeartbeats 1000000 in
theorem breaks_spec (s : ByteArray) (_hs : s.size ≤ 100000) (w : World) : Calls Tryz.prog 156 #[.string s] w fun e w' => (∃ n : Nat, n ≤ s.size ∧ e = .returned (.int .i64 (n : Int))) ∧ w' = w := by
  go_enter Tryz.func156, Tryz.ntmps156
  go_wp2
  go_loop [3, 4] (fun t i => ∃ k n : Nat, k ≤ s.size ∧ n ≤ k ∧ i = .int .i64 k ∧ t = .int .i64 n) (fun _ i => s.size - (intOf i).toNat)
  case atStart => exact ⟨0, 0, Nat.zero_le _, Nat.le_refl _, rfl, rfl⟩
  case round =>
    obtain ⟨k, n, hk, hn, rfl, rfl⟩ := hrel
    by_cases hlt : k < s.size
    · by_cases h10 : s[k].toNat = 10
      · have e10 : ((s[k].toNat : Int) == 10) = true := by rw [beq_iff_eq]; omega
        clear h10
        go_wp2
        go_round
        case rel => exact ⟨k + 1, n + 1, by omega, by omega, by go_num, by go_num⟩
        case measure => simp [intOf]; omega
      · have e10 : ((s[k].toNat : Int) == 10) = false := by rw [beq_eq_false_iff_ne]; omega
        clear h10
        go_wp2
        go_round
        case rel => exact ⟨k + 1, n, by omega, by omega, by go_num, rfl⟩
        case measure => simp [intOf]; omega
    · go_wp2
      go_ret
      exact ⟨⟨n, by omega, rfl⟩, rfl⟩

set_option maxHeartbeats 1000000 in
theorem done_spec {w : World} {R : Nat} {s : ByteArray} {i p fr : Nat} (h : IsRd w R s i p fr) (_hs : s.size ≤ 100000) (_hi : i ≤ s.size) : Calls Tryz.prog 45 #[.pointer (some ⟨R, 0, none⟩)] w fun e w' => e = .returned (.bool (decide (s.size ≤ i))) ∧ ∃ n, w' = w.drewN n := by
  obtain ⟨c0, c1, c2, c3, fz⟩ := h.cells
  clear c2 c3 fz h
  by_cases hd : s.size ≤ i
  · have e : decide (s.size ≤ i) = true := by simpa using hd
    have hd1 : (s.size : Int) ≤ (i : Int) := by omega
    have hd2 : decide ((s.size : Int) ≤ (i : Int)) = true := by simp; omega
    rw [e]
    clear hd
    go_enter Tryz.func45, Tryz.ntmps45
    go_wp2
    go_quiet (fail)
    go_wp2
    go_ret
    exact ⟨rfl, nq, rfl⟩
  · have e : decide (s.size ≤ i) = false := by simpa using hd
    have hd1 : ¬ (s.size : Int) ≤ (i : Int) := by omega
    have hd2 : decide ((s.size : Int) ≤ (i : Int)) = false := by simp; omega
    rw [e]
    clear hd
    go_enter Tryz.func45, Tryz.ntmps45
    go_wp2
    go_quiet (fail)
    go_wp2
    go_ret
    exact ⟨rfl, nq, rfl⟩

/-- Whether the next byte is in a set. -/
def nextIs (f : Nat → Bool) (s : ByteArray) (i : Nat) : Bool := if h : i < s.size then f (s[i]'h).toNat else false

set_option maxHeartbeats 2000000 in
theorem next_spec {w : World} {R : Nat} {s : ByteArray} {i p fr : Nat} {f : Nat → Bool} {j : Int} (h : IsRd w R s i p fr) (hin : ∀ (x : Nat) (w : World), Calls Tryz.prog 92 #[.int .i64 j, .int .u8 (x : Int)] w fun e w' => e = .returned (.bool (f x)) ∧ w' = w) :
    Calls Tryz.prog 91 #[.pointer (some ⟨R, 0, none⟩), .int .i64 j] w fun e w' => e = .returned (.bool (nextIs f s i)) ∧ ∃ n, w' = w.drewN n := by
  obtain ⟨c0, c1, c2, c3, fz⟩ := h.cells
  clear c2 c3 fz h
  by_cases hd : i < s.size
  · have e : decide (i < s.size) = true := by simpa using hd
    have hd1 : (i : Int) < (s.size : Int) := by omega
    have hd2 : decide ((i : Int) < (s.size : Int)) = true := by simp; omega
    have hn : nextIs f s i = f (s[i]).toNat := by simp [nextIs, hd]
    rw [hn]
    have hin1 := fun w => hin (s[i]).toNat w
    obtain ⟨fb, hfb⟩ : ∃ fb, f (s[i]).toNat = fb := ⟨_, rfl⟩
    rw [hfb] at hin1 ⊢
    have HIN := hid hin1
    clear hn hin1 hin hfb
    go_enter Tryz.func91, Tryz.ntmps91
    go_wp2
    go_quiet ((go_at_call 92; exact Calls.quiet_of_same (HIN.out _)))
    go_wp2
    go_ret
    exact ⟨rfl, nq, rfl⟩
  · have e : decide (i < s.size) = false := by simpa using hd
    have hd1 : ¬ (i : Int) < (s.size : Int) := by omega
    have hd2 : decide ((i : Int) < (s.size : Int)) = false := by simp; omega
    have hn : nextIs f s i = false := by simp [nextIs, hd]
    rw [hn]
    clear hn hin
    go_enter Tryz.func91, Tryz.ntmps91
    go_wp2
    go_quiet (fail)
    go_wp2
    go_ret
    exact ⟨rfl, nq, rfl⟩
end Go.Proofs.YtejlokdcocacaaaGreatDoor

/- The reference's place, fault, run. -/
namespace Go.Proofs.YtejlokdcocacaaaGreatDoor
open Go.RowKit

/-- Only block R, and new ones, have turned. -/
structure Rds (R : Nat) (w w' : World) : Prop where
  os : w'.os = w.os
  tape : w'.tape = w.tape
  output : w'.output = w.output
  size : w.heap.size ≤ w'.heap.size
  block : ∀ k, k < w.heap.size → k ≠ R → w'.heap[k]? = w.heap[k]?

theorem Rds.refl (R : Nat) (w : World) : Rds R w w := ⟨rfl, rfl, rfl, Nat.le_refl _, fun _ _ _ => rfl⟩
theorem Rds.trans {R : Nat} {a b c : World} (h : Rds R a b) (k : Rds R b c) : Rds R a c :=
  ⟨k.os.trans h.os, k.tape.trans h.tape, k.output.trans h.output, Nat.le_trans h.size k.size, fun i hi hd => by rw [k.block i (Nat.lt_of_lt_of_le hi h.size) hd, h.block i hi hd]⟩
theorem Rds.drewN {R : Nat} {a b : World} (h : Rds R a b) (n : Nat) : Rds R a (b.drewN n) := ⟨h.os, h.tape, h.output, h.size, h.block⟩
theorem Rds.drew {R : Nat} {a b : World} (h : Rds R a b) : Rds R a b.drew := ⟨h.os, h.tape, h.output, h.size, h.block⟩
theorem Rds.alloc {R : Nat} {a b : World} (h : Rds R a b) (o : Obj) : Rds R a (b.alloc o) :=
  ⟨h.os, h.tape, h.output, by have := h.size; simp; omega, fun k hk hd => by rw [Below.heap_alloc _ _ _ (Nat.lt_of_lt_of_le hk h.size)]; exact h.block k hk hd⟩
theorem Rds.setR {R : Nat} {a b : World} (h : Rds R a b) (o : Nat) (v : Value) : Rds R a (b.setCell ⟨R, o, none⟩ v) :=
  ⟨h.os, h.tape, h.output, by have := h.size; simp [World.setCell]; omega, fun k hk hd => by rw [Below.heap_setCell _ _ _ _ hd]; exact h.block k hk hd⟩
theorem Rds.setNew {R : Nat} {a b : World} (h : Rds R a b) {p : Addr} (hp : a.heap.size ≤ p.block) (v : Value) : Rds R a (b.setCell p v) :=
  ⟨h.os, h.tape, h.output, by have := h.size; simp [World.setCell]; omega, fun k hk hd => by rw [Below.heap_setCell _ _ _ _ (by omega)]; exact h.block k hk hd⟩
theorem Rds.below {R : Nat} {a b c : World} (h : Rds R a b) (k : Below b.heap.size b c) : Rds R a c :=
  ⟨k.os.trans h.os, k.tape.trans h.tape, k.output.trans h.output, Nat.le_trans h.size k.size, fun i hi hd => by rw [k.block i (Nat.lt_of_lt_of_le hi h.size)]; exact h.block i hi hd⟩
theorem Rds.toBelow {B R : Nat} {a b : World} (h : Rds R a b) (hD : B ≤ R) (hB : B ≤ a.heap.size) : Below B a b :=
  ⟨h.os, h.tape, h.output, h.size, fun k hk => h.block k (by omega) (by omega)⟩

theorem IsRd.below {w w' : World} {R : Nat} {s : ByteArray} {i p fr : Nat} (h : IsRd w R s i p fr) (k : Below w.heap.size w w') : IsRd w' R s i p fr :=
  (k.block R (lt_of_block h)).trans h
theorem IsRd.drewN {w : World} {R : Nat} {s : ByteArray} {i p fr : Nat} (h : IsRd w R s i p fr) (n : Nat) : IsRd (w.drewN n) R s i p fr := h
theorem IsRd.alloc {w : World} {R : Nat} {s : ByteArray} {i p fr : Nat} (h : IsRd w R s i p fr) (o : Obj) : IsRd (w.alloc o) R s i p fr :=
  (Below.heap_alloc _ _ _ (lt_of_block h)).trans h
theorem IsRd.setAt {w : World} {R : Nat} {s : ByteArray} {i p fr : Nat} (h : IsRd w R s i p fr) (n : Nat) : IsRd (w.setCell ⟨R, 1, none⟩ (.int .i64 (n : Int))) R s n p fr := by
  unfold IsRd; rw [heap_setCell_same w R 1 _ _ _ h]; rfl
theorem IsRd.setPart {w : World} {R : Nat} {s : ByteArray} {i p fr : Nat} (h : IsRd w R s i p fr) (n : Nat) : IsRd (w.setCell ⟨R, 2, none⟩ (.int .i64 (n : Int))) R s i n fr := by
  unfold IsRd; rw [heap_setCell_same w R 2 _ _ _ h]; rfl
theorem IsRd.setFrom {w : World} {R : Nat} {s : ByteArray} {i p fr : Nat} (h : IsRd w R s i p fr) (n : Nat) : IsRd (w.setCell ⟨R, 3, none⟩ (.int .i64 (n : Int))) R s i p n := by
  unfold IsRd; rw [heap_setCell_same w R 3 _ _ _ h]; rfl
theorem IsRd.setNew {w : World} {R : Nat} {s : ByteArray} {i p fr : Nat} (h : IsRd w R s i p fr) {a : Addr} (ha : R ≠ a.block) (v : Value) : IsRd (w.setCell a v) R s i p fr :=
  (Below.heap_setCell _ _ _ _ ha).trans h

set_option maxHeartbeats 4000000 in
theorem place_spec {w : World} {R : Nat} {s : ByteArray} {i p fr : Nat} (h : IsRd w R s i p fr) (hs : s.size ≤ 1000) (k : Nat) (hk : k ≤ s.size) (hfr : fr ≤ k) :
    Calls Tryz.prog 134 #[.pointer (some ⟨R, 0, none⟩), .int .i64 k] w fun e w' => (∃ a b : Int, e = .returned (.agg #[.bool true, .int .i64 a, .int .i64 b, .bool false])) ∧ Below w.heap.size w w' := by
  obtain ⟨c0, c1, c2, c3, fz⟩ := h.cells
  have hR := lt_of_block h
  clear c2 fz h
  go_enter Tryz.func134, Tryz.ntmps134
  go_wp2_with fail
  go_loop [5, 6] (fun b i => ∃ m q : Nat, m ≤ k ∧ q ≤ k ∧ i = .int .i64 m ∧ b = .int .i64 q) (fun _ i => k - (intOf i).toNat)
  case atStart => exact ⟨fr, fr, hfr, hfr, rfl, rfl⟩
  case round =>
    obtain ⟨m, q, hm, hq, rfl, rfl⟩ := hrel
    by_cases hlt : m < k
    · have hlt2 : m < s.size := by omega
      have hm1 : m + 1 ≤ 1000 := by omega
      by_cases h10 : s[m].toNat = 10
      · have e10 : ((s[m].toNat : Int) == 10) = true := by rw [beq_iff_eq]; omega
        clear h10
        go_wp2_with fail
        go_round
        case rel => exact ⟨m + 1, m + 1, by omega, by omega, by go_num, by go_num⟩
        case measure => simp [intOf]; omega
      · have e10 : ((s[m].toNat : Int) == 10) = false := by rw [beq_eq_false_iff_ne]; omega
        clear h10
        go_wp2_with fail
        go_round
        case rel => exact ⟨m + 1, q, by omega, by omega, by go_num, rfl⟩
        case measure => simp [intOf]; omega
    · go_wp2_with fail
      have hz : (s.extract 0 k).size ≤ 100000 := by rw [ByteArray.size_extract]; omega
      have hz2 : (s.extract 0 k).size ≤ 1000 := by rw [ByteArray.size_extract]; omega
      refine (breaks_spec _ hz _).mono ?_
      rintro e w2 ⟨⟨n, hn, rfl⟩, rfl⟩
      have hn2 : n ≤ 1000 := by omega
      clear hn hz hz2
      go_wp2_with fail
      refine bodyPost_ret (by simp [results, Tryz.results134, go_sem]; try rfl) rfl ?_
      exact ⟨⟨_, _, rfl⟩, by go_grown⟩

/-- A fault of the reference's, as a value. -/
def FV (v : Value) (b : Bool) : Prop := ∃ x y : Int, v = .agg #[.bool b, .int .i64 x, .int .i64 y, .bool false]

def z37 : Obj := .cells #[.bool false, .int .i64 0, .int .i64 0, .bool false] 37

/-- A variable of a fault's type, laid anew. -/
theorem lay37 {w : World} {g : Nat} {o0 o1 o2 o3 : Value} (hn : w.heap[g]? = some (.cells #[o0, o1, o2, o3] 37 (0, 0))) (v0 v1 v2 v3 : Value) :
    ((((w.setCell ⟨g, 0, none⟩ v0).setCell ⟨g, 1, none⟩ v1).setCell ⟨g, 2, none⟩ v2).setCell ⟨g, 3, none⟩ v3).heap[g]? = some (.cells #[v0, v1, v2, v3] 37 (0, 0)) := by
  have h1 := heap_setCell_same w g 0 _ _ v0 hn
  have h2 := heap_setCell_same _ g 1 _ _ v1 h1
  have h3 := heap_setCell_same _ g 2 _ _ v2 h2
  have h4 := heap_setCell_same _ g 3 _ _ v3 h3
  exact h4.trans (by simp)

theorem res37 {fn : Func} {p : Tmp} (h : fn.results = #[.cell p 37]) {tmps : Array Value} {w : World} {g : Nat} {cs : Array Value} (hp : tmps.getD p undef = .pointer (some ⟨g, 0, none⟩)) (hg : w.heap[g]? = some (.cells cs 37 (0, 0))) (hc : cs.size = 4) :
    (results fn tmps).run Tryz.prog w = .ok (.agg cs) w :=
  results_cell_row h tmps w g 37 cs (0, 0) _ hp hg Tryz.underlying37 rfl (by rw [hc]; kernel_rfl)

/-- A fault laid into a variable of its own type. -/
theorem store37 (w : World) (g : Nat) (old : Array Value) (b : Bool) (x y : Int) (hg : w.heap[g]? = some (.cells old 37 (0, 0))) (ho : old.size = 4) :
    (storeVar 37 ⟨g, 0, none⟩ (.agg #[.bool b, .int .i64 x, .int .i64 y, .bool false])).run Tryz.prog w = .ok () (w.setRow g #[.bool b, .int .i64 x, .int .i64 y, .bool false]) :=
  run_storeVar_row w g 37 37 old _ hg (by kernel_rfl) ho (by simp [Value.oneCell'])

set_option maxHeartbeats 4000000 in
set_option maxRecDepth 100000 in
theorem specFault_spec {w : World} {R : Nat} {s : ByteArray} {i p fr : Nat} (h : IsRd w R s i p fr) (hs : s.size ≤ 1000) (hp : p ≤ 5) (k : Nat) (hk : k ≤ s.size) (hfr : fr ≤ k) :
    Calls Tryz.prog 95 #[.pointer (some ⟨R, 0, none⟩), .int .i64 k] w fun e w' => (∃ v, e = .returned v ∧ FV v true) ∧ IsRd w' R s i (if p = 5 then 5 else 4) fr ∧ Rds R w w' := by
  obtain ⟨c0, c1, c2, c3, fz⟩ := h.cells
  have hR := lt_of_block h
  have H := hid h
  clear c0 c1 c3 h
  by_cases h5 : p = 5
  · subst h5
    go_enter Tryz.func95, Tryz.ntmps95
    go_wp2_with fail
    refine (place_spec (H.out.alloc _) hs k hk hfr).mono ?_
    rintro e w2 ⟨⟨a, b, rfl⟩, hb⟩
    have hn : w2.heap[w.heap.size]? = some (.cells #[.bool false, .int .i64 0, .int .i64 0, .bool false] 37 (0, 0)) := (hb.block _ (by simp)).trans (heap_alloc_new _ _)
    have n0 : w2.cell? ⟨w.heap.size, 0, none⟩ = some (.bool false) := cell_of_row w2 w.heap.size 0 _ _ _ hn
    have n1 : w2.cell? ⟨w.heap.size, 1, none⟩ = some (.int .i64 0) := cell_of_row w2 w.heap.size 1 _ _ _ hn
    have n2 : w2.cell? ⟨w.heap.size, 2, none⟩ = some (.int .i64 0) := cell_of_row w2 w.heap.size 2 _ _ _ hn
    have n3 : w2.cell? ⟨w.heap.size, 3, none⟩ = some (.bool false) := cell_of_row w2 w.heap.size 3 _ _ _ hn
    have nf : ∀ o, w2.frozen? ⟨w.heap.size, o, none⟩ = false := fun o => frozen_of_row w2 w.heap.size o _ _ hn
    have HN := hid hn
    have HB := hid hb; clear hb hn
    go_wp2_with fail
    refine bodyPost_ret (res37 rfl rfl (lay37 HN.out _ _ _ _) rfl) rfl ?_
    have hne : R ≠ w.heap.size := by omega
    refine ⟨⟨_, rfl, a, b, rfl⟩, ?_, ?_⟩
    · exact (((((H.out.alloc z37).below HB.out).setNew hne _).setNew hne _).setNew hne _).setNew hne _
    · exact ((((((Rds.refl R w).alloc z37).below HB.out).setNew (Nat.le_refl _) _).setNew (Nat.le_refl _) _).setNew (Nat.le_refl _) _).setNew (Nat.le_refl _) _
  · go_enter Tryz.func95, Tryz.ntmps95
    have e5 : ((p : Int) != 5) = true := by rw [bne_iff_ne]; omega
    rw [if_neg h5]
    go_wp2_with fail
    refine (place_spec ((H.out.setPart 4).alloc _) hs k hk hfr).mono ?_
    rintro e w2 ⟨⟨a, b, rfl⟩, hb⟩
    have hn : w2.heap[w.heap.size]? = some (.cells #[.bool false, .int .i64 0, .int .i64 0, .bool false] 37 (0, 0)) := (hb.block _ (by simp)).trans ((congrArg (fun n => ((w.setCell ⟨R, 2, none⟩ (.int .i64 4)).alloc z37).heap[n]?) (World.size_setCell (w := w) (a := ⟨R, 2, none⟩) (v := .int .i64 4)).symm).trans (heap_alloc_new _ _))
    have n0 : w2.cell? ⟨w.heap.size, 0, none⟩ = some (.bool false) := cell_of_row w2 w.heap.size 0 _ _ _ hn
    have n1 : w2.cell? ⟨w.heap.size, 1, none⟩ = some (.int .i64 0) := cell_of_row w2 w.heap.size 1 _ _ _ hn
    have n2 : w2.cell? ⟨w.heap.size, 2, none⟩ = some (.int .i64 0) := cell_of_row w2 w.heap.size 2 _ _ _ hn
    have n3 : w2.cell? ⟨w.heap.size, 3, none⟩ = some (.bool false) := cell_of_row w2 w.heap.size 3 _ _ _ hn
    have nf : ∀ o, w2.frozen? ⟨w.heap.size, o, none⟩ = false := fun o => frozen_of_row w2 w.heap.size o _ _ hn
    have HN := hid hn
    have HB := hid hb; clear hb hn
    go_wp2_with fail
    refine bodyPost_ret (res37 rfl rfl (lay37 HN.out _ _ _ _) rfl) rfl ?_
    have hne : R ≠ w.heap.size := by omega
    refine ⟨⟨_, rfl, a, b, rfl⟩, ?_, ?_⟩
    · exact ((((((H.out.setPart 4).alloc z37).below HB.out).setNew hne _).setNew hne _).setNew hne _).setNew hne _
    · exact (((((((Rds.refl R w).setR 2 _).alloc z37).below HB.out).setNew (Nat.le_refl _) _).setNew (Nat.le_refl _) _).setNew (Nat.le_refl _) _).setNew (Nat.le_refl _) _
end Go.Proofs.YtejlokdcocacaaaGreatDoor

/- The reference's run. -/
namespace Go.Proofs.YtejlokdcocacaaaGreatDoor
open Go.RowKit

/-- How many bytes from place i on are in a set. -/
def runN (f : Nat → Bool) (s : ByteArray) (i : Nat) : Nat := ((s.data.toList.drop i).takeWhile fun c => f c.toNat).length

theorem runN_zero {f : Nat → Bool} {s : ByteArray} {i : Nat} (h : nextIs f s i = false) : runN f s i = 0 := by
  unfold nextIs at h
  unfold runN
  by_cases hi : i < s.size
  · rw [dif_pos hi] at h
    rw [List.drop_eq_getElem_cons (show i < s.data.toList.length from hi), List.takeWhile_cons, if_neg (by rw [← at_list s i hi, h]; simp)]
    rfl
  · rw [List.drop_eq_nil_of_le (show s.data.toList.length ≤ i from Nat.le_of_not_lt hi)]; rfl

theorem runN_succ {f : Nat → Bool} {s : ByteArray} {i : Nat} (h : nextIs f s i = true) : i < s.size ∧ runN f s i = runN f s (i + 1) + 1 := by
  unfold nextIs at h
  by_cases hi : i < s.size
  · rw [dif_pos hi] at h
    refine ⟨hi, ?_⟩
    unfold runN
    rw [List.drop_eq_getElem_cons (show i < s.data.toList.length from hi), List.takeWhile_cons, if_pos (by rw [← at_list s i hi, h]), List.length_cons]
  · rw [dif_neg hi] at h; simp at h

theorem runN_le {f : Nat → Bool} {s : ByteArray} {i : Nat} (hi : i ≤ s.size) : i + runN f s i ≤ s.size := by
  unfold runN
  have h1 := (List.takeWhile_prefix (fun c : UInt8 => f c.toNat) (l := s.data.toList.drop i)).length_le
  rw [List.length_drop, ← size_list] at h1
  omega

set_option maxHeartbeats 4000000 in
set_option maxRecDepth 100000 in
theorem run_spec {w : World} {R : Nat} {s : ByteArray} {i p fr : Nat} {f : Nat → Bool} {j : Int} (h : IsRd w R s i p fr) (hs : s.size ≤ 1000) (hi : i ≤ s.size) (hin : ∀ (x : Nat) (w : World), Calls Tryz.prog 92 #[.int .i64 j, .int .u8 (x : Int)] w fun e w' => e = .returned (.bool (f x)) ∧ w' = w) :
    Calls Tryz.prog 43 #[.pointer (some ⟨R, 0, none⟩), .int .i64 j] w fun e w' => e = .returned (.string (s.extract i (i + runN f s i))) ∧ IsRd w' R s (i + runN f s i) p fr ∧ Rds R w w' := by
  have H := hid h
  have HIN := hid hin
  obtain ⟨c0, c1, c2, c3, fz⟩ := h.cells
  clear h hin c0 c2 c3 fz
  go_enter Tryz.func43, Tryz.ntmps43
  go_wp2_with fail
  clear c1
  go_loopg [] (s.size - i + 1) (fun gh wx => ∃ k : Nat, gh + k = s.size + 1 ∧ i ≤ k ∧ k ≤ s.size ∧ Hid (i + runN f s i = k + runN f s k) ∧ Hid (IsRd wx R s k p fr) ∧ Hid (Rds R w wx))
  case atStart => exact ⟨i, by omega, Nat.le_refl _, hi, rfl, H.out, Rds.refl R w⟩
  case round =>
    obtain ⟨k, hk0, hk1, hk2, hk3, HR, HF⟩ := hrel
    cases hnx : nextIs f s k
    · have hz := runN_zero hnx
      rw [hz, Nat.add_zero] at hk3
      have hnext := next_spec HR.out HIN.out
      rw [hnx] at hnext
      have HNX := hid hnext
      clear hnext hz hnx
      go_wp2_with fail
      refine HNX.out.mono ?_
      rintro e w2 ⟨rfl, n, rfl⟩
      have HR2 : Hid (IsRd (wr.drewN n) R s k p fr) := HR
      have HF2 := hid (HF.out.drewN n)
      obtain ⟨w3, hw3⟩ : ∃ w3, wr.drewN n = w3 := ⟨_, rfl⟩
      rw [hw3] at HR2 HF2 ⊢
      clear hw3
      obtain ⟨c0, c1, c2, c3, fz⟩ := HR2.out.cells
      clear c2 c3
      have HK := hid hk3
      have hik : (i : Int) ≤ (k : Int) := by omega
      have hks : (k : Int) ≤ (s.size : Int) := by omega
      go_wp2_with fail
      go_quiet (fail)
      go_wp2_with fail
      go_ret
      rw [HK.out]
      exact ⟨rfl, HR2.out.drewN _, HF2.out.drewN _⟩
    · have hks := (runN_succ hnx).1
      have hk3b : i + runN f s i = k + 1 + runN f s (k + 1) := by have := hk3.out; have := (runN_succ hnx).2; omega
      have HK := hid hk3b
      have hnext := next_spec HR.out HIN.out
      rw [hnx] at hnext
      have HNX := hid hnext
      clear hnext hnx hk3b hk3
      go_wp2_with fail
      refine HNX.out.mono ?_
      rintro e w2 ⟨rfl, n, rfl⟩
      have HR2 : Hid (IsRd (wr.drewN n) R s k p fr) := HR
      have HF2 := hid (HF.out.drewN n)
      obtain ⟨w3, hw3⟩ : ∃ w3, wr.drewN n = w3 := ⟨_, rfl⟩
      rw [hw3] at HR2 HF2 ⊢
      clear hw3
      obtain ⟨c0, c1, c2, c3, fz⟩ := HR2.out.cells
      clear c0 c2 c3
      go_wp2_with fail
      go_roundg (s.size - k)
      case measure => omega
      case rel =>
        exact ⟨k + 1, by omega, by omega, by omega, HK, HR2.out.setAt (k + 1), HF2.out.setR 1 _⟩
end Go.Proofs.YtejlokdcocacaaaGreatDoor
