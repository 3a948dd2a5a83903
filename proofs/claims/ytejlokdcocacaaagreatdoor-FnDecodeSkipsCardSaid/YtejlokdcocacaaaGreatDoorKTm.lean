/- package time at the instants asked for: nanoseconds since the year 1. -/
import Derived.Test.YtejlokdcocacaaaGreatDoorProg
import Derived.Test.YtejlokdcocacaaaGreatDoorKBase
import Derived.WalkKit
import Derived.WalkSpells
import Derived.Deep.Draws
import Derived.Outline
import Derived.Handy
import Derived.Laws.BitsAllLaws
import Derived.Defers
import Derived.Recover
import Derived.Laws.Pointers
import Derived.Laws.NewBlocks
namespace Go.Proofs.YtejlokdcocacaaaGreatDoor
open Go.RowKit

theorem and63 (n : Int) (h0 : 0 ≤ n) (h1 : n < 1073741824) : bits .and .u64 n 9223372036854775808 = 0 := by
  rw [u64_and n _ h0 (by omega) (by omega) (by omega)]
  have e : n.toNat &&& (9223372036854775808 : Int).toNat = 0 := by
    have h2 : n.toNat < 2 ^ 30 := by omega
    have h3 : (9223372036854775808 : Int).toNat = 2 ^ 63 := by decide +kernel
    rw [h3, nat_bit, Nat.div_eq_of_lt (by omega)]
  rw [e]; rfl
theorem and30 (n : Int) (h0 : 0 ≤ n) (h1 : n < 1073741824) : bits .and .u64 n 1073741823 = n := by
  rw [u64_and n _ h0 (by omega) (by omega) (by omega)]
  have h3 : (1073741823 : Int).toNat = 2 ^ 30 - 1 := by decide +kernel
  rw [h3, Nat.and_two_pow_sub_one_eq_mod]
  omega
theorem andNot30 (n : Int) (h0 : 0 ≤ n) (h1 : n < 1073741824) : bits .andNot .u64 n 1073741823 = 0 := by
  rw [u64_andNot n _ h0 (by omega) (by omega) (by omega)]
  have h3 : 18446744073709551615 - (1073741823 : Int).toNat = 2 ^ 64 - 2 ^ 30 := by decide +kernel
  rw [h3]
  have e : n.toNat &&& (2 ^ 64 - 2 ^ 30) = 0 := by
    apply Nat.eq_of_testBit_eq
    intro j
    rw [Nat.testBit_and, Nat.zero_testBit]
    by_cases hj : j < 30
    · have : (2 ^ 64 - 2 ^ 30).testBit j = false := by
        have : ∀ j : Fin 30, (2 ^ 64 - 2 ^ 30).testBit j.val = false := by decide +kernel
        exact this ⟨j, hj⟩
      rw [this, Bool.and_false]
    · have : n.toNat.testBit j = false := Nat.testBit_lt_two_pow (Nat.lt_of_lt_of_le (show n.toNat < 2 ^ 30 by omega) (Nat.pow_le_pow_right (by decide) (by omega)))
      rw [this, Bool.false_and]
  rw [e]; rfl
theorem or0 (n : Int) (h0 : 0 ≤ n) (h1 : n < 1073741824) : bits .or .u64 0 n = n := by
  rw [u64_or 0 n (by omega) (by omega) h0 (by omega)]
  have e : (0 : Int).toNat ||| n.toNat = n.toNat := by simp
  rw [e]; omega

/-- A Time in memory: what is ahead of a second, and the seconds. -/
structure IsTm (w : World) (b : Nat) (n s : Int) : Prop where
  c0 : w.cell? ⟨b, 0, none⟩ = some (.int .u64 n)
  c1 : w.cell? ⟨b, 1, none⟩ = some (.int .i64 s)
  n0 : 0 ≤ n
  n1 : n < 1000000000

set_option maxHeartbeats 400000 in
theorem sec_any {w : World} {b : Nat} {n s : Int} (h : IsTm w b n s) : Calls Tryz.prog 153 #[.pointer (some ⟨b, 0, none⟩)] w fun e w' => e = .returned (.int .i64 s) ∧ w = w' := by
  have h0 := h.c0
  have h1 := h.c1
  have h3 := and63 n h.n0 (by have := h.n1; omega)
  clear h
  go_enter Tryz.func153, Tryz.ntmps153
  go_wp2
  go_ret
  exact ⟨rfl, rfl⟩

set_option maxHeartbeats 400000 in
theorem nsec_any {w : World} {b : Nat} {n s : Int} (h : IsTm w b n s) : Calls Tryz.prog 127 #[.pointer (some ⟨b, 0, none⟩)] w fun e w' => e = .returned (.int .i32 n) ∧ w = w' := by
  have h0 := h.c0
  have h1 := h.c1
  have n0 := h.n0
  have n1 := h.n1
  have h3 := and30 n h.n0 (by have := h.n1; omega)
  clear h
  go_enter Tryz.func127, Tryz.ntmps127
  go_wp2
  go_ret
  exact ⟨rfl, rfl⟩

set_option maxHeartbeats 400000 in
theorem strip_any {w : World} {b : Nat} {n s : Int} (h : IsTm w b n s) : Calls Tryz.prog 150 #[.pointer (some ⟨b, 0, none⟩)] w fun e w' => e = .returned (.tuple #[]) ∧ w = w' := by
  have h0 := h.c0
  have h3 := and63 n h.n0 (by have := h.n1; omega)
  clear h
  go_enter Tryz.func150, Tryz.ntmps150
  go_wp2
  go_end0
  exact ⟨rfl, rfl⟩
set_option maxHeartbeats 800000 in
theorem addSec_any {w : World} {b : Nat} {n s d : Int} (h : IsTm w b n s) (hz : w.frozen? ⟨b, 1, none⟩ = false) (s0 : 0 ≤ s) (s1 : s ≤ 100000000000) (d0 : -10000000000 ≤ d) (d1 : d ≤ 10000000000) :
    Calls Tryz.prog 152 #[.pointer (some ⟨b, 0, none⟩), .int .i64 d] w fun e w' => e = .returned (.tuple #[]) ∧ w' = w.setCell ⟨b, 1, none⟩ (.int .i64 (s + d)) := by
  have h0 := h.c0
  have h1 := h.c1
  have h3 := and63 n h.n0 (by have := h.n1; omega)
  clear h
  by_cases hd : 0 < d
  · have e1 : s < s + d := by omega
    go_enter Tryz.func152, Tryz.ntmps152
    go_wp2
    go_end0
    exact ⟨rfl, rfl⟩
  · have e1 : ¬ s < s + d := by omega
    go_enter Tryz.func152, Tryz.ntmps152
    go_wp2
    go_end0
    exact ⟨rfl, rfl⟩

/-- An instant: so many nanoseconds since the year 1. -/
def tmV (x : Int) : Value := .agg #[.int .u64 (x % 1000000000), .int .i64 (x / 1000000000), .pointer none]

theorem IsTm.new (w : World) (n s : Int) (n0 : 0 ≤ n) (n1 : n < 1000000000) : IsTm (w.alloc (.cells #[.int .u64 n, .int .i64 s, .pointer none] 144)) w.heap.size n s := by
  have hh := heap_alloc_new w (.cells #[.int .u64 n, .int .i64 s, .pointer none] 144)
  exact ⟨cell_of_row _ _ 0 _ _ _ hh, cell_of_row _ _ 1 _ _ _ hh, n0, n1⟩

theorem IsTm.alloc {w : World} {b : Nat} {n s : Int} (h : IsTm w b n s) (o : Obj) (hb : b < w.heap.size) : IsTm (w.alloc o) b n s :=
  ⟨(World.cell?_of_block (w := w) (a := ⟨b, 0, none⟩) (Below.heap_alloc _ _ _ hb)).trans h.c0, (World.cell?_of_block (w := w) (a := ⟨b, 1, none⟩) (Below.heap_alloc _ _ _ hb)).trans h.c1, h.n0, h.n1⟩

/-- The two cells of an Add: its own copy, its result. -/
def addW (w : World) (n s : Int) : World := (w.alloc (.cells #[.int .u64 n, .int .i64 s, .pointer none] 144)).alloc (.cells #[.int .u64 0, .int .i64 0, .pointer none] 144)

theorem addW_tm (w : World) (n s : Int) (n0 : 0 ≤ n) (n1 : n < 1000000000) : IsTm (addW w n s) w.heap.size n s := (IsTm.new w n s n0 n1).alloc _ (by simp)

set_option maxHeartbeats 1600000 in
theorem add_any {w : World} {n s d q r : Int} (n0 : 0 ≤ n) (n1 : n < 1000000000) (s0 : 0 ≤ s) (s1 : s ≤ 90000000000)
    (hq : d.tdiv 1000000000 = q) (hr : d.tmod 1000000000 = r) (q0 : -9223372037 ≤ q) (q1 : q ≤ 9223372037) (r0 : -1000000000 < r) (r1 : r < 1000000000) :
    Calls Tryz.prog 124 #[.agg #[.int .u64 n, .int .i64 s, .pointer none], .int .i64 d] w fun e w' => ∃ n' s' : Int, e = .returned (.agg #[.int .u64 n', .int .i64 s', .pointer none]) ∧ n' + 1000000000 * s' = n + r + 1000000000 * (s + q) ∧ 0 ≤ n' ∧ n' < 1000000000 ∧ Below w.heap.size w w' := by
  have HI := hid (addW_tm w n s n0 n1)
  unfold addW at HI
  by_cases h1 : 1000000000 ≤ n + r
  · skip
    have f1 := andNot30 n n0 (by omega)
    have f2 := or0 (n + r - 1000000000) (by omega) (by omega)
    have f3 := and63 (n + r - 1000000000) (by omega) (by omega)
    have HJ := hid (addW_tm w (n + r - 1000000000) s (by omega) (by omega))
    unfold addW at HJ
    go_enter Tryz.func124, Tryz.ntmps124
    go_wp2_with fail
    refine (nsec_any HI.out).mono ?_; rintro e w1 ⟨rfl, rfl⟩
    go_wp2_with fail
    refine (addSec_any HJ.out (by simp) s0 (by omega) (by omega) (by omega)).mono ?_; rintro e w1 ⟨rfl, rfl⟩
    go_wp2_with fail
    refine bodyPost_ret (by simp [results, Tryz.results124, go_sem]; try rfl) rfl ?_
    refine ⟨n + r - 1000000000, s + (q + 1), rfl, by omega, by omega, by omega, by go_grown⟩
  by_cases h2 : n + r < 0
  · skip
    have f1 := andNot30 n n0 (by omega)
    have f2 := or0 (n + r + 1000000000) (by omega) (by omega)
    have f3 := and63 (n + r + 1000000000) (by omega) (by omega)
    have HJ := hid (addW_tm w (n + r + 1000000000) s (by omega) (by omega))
    unfold addW at HJ
    go_enter Tryz.func124, Tryz.ntmps124
    go_wp2_with fail
    refine (nsec_any HI.out).mono ?_; rintro e w1 ⟨rfl, rfl⟩
    go_wp2_with fail
    refine (addSec_any HJ.out (by simp) s0 (by omega) (by omega) (by omega)).mono ?_; rintro e w1 ⟨rfl, rfl⟩
    go_wp2_with fail
    refine bodyPost_ret (by simp [results, Tryz.results124, go_sem]; try rfl) rfl ?_
    refine ⟨n + r + 1000000000, s + (q - 1), rfl, by omega, by omega, by omega, by go_grown⟩
  · skip
    have f1 := andNot30 n n0 (by omega)
    have f2 := or0 (n + r) (by omega) (by omega)
    have f3 := and63 (n + r) (by omega) (by omega)
    have HJ := hid (addW_tm w (n + r) s (by omega) (by omega))
    unfold addW at HJ
    go_enter Tryz.func124, Tryz.ntmps124
    go_wp2_with fail
    refine (nsec_any HI.out).mono ?_; rintro e w1 ⟨rfl, rfl⟩
    go_wp2_with fail
    refine (addSec_any HJ.out (by simp) s0 (by omega) (by omega) (by omega)).mono ?_; rintro e w1 ⟨rfl, rfl⟩
    go_wp2_with fail
    refine bodyPost_ret (by simp [results, Tryz.results124, go_sem]; try rfl) rfl ?_
    refine ⟨n + r, s + (q), rfl, by omega, by omega, by omega, by go_grown⟩

theorem quo_bounds (d : Int) (d0 : -9223372036854775808 ≤ d) (d1 : d ≤ 9223372036854775807) : d.tmod 1000000000 + 1000000000 * d.tdiv 1000000000 = d ∧ -9223372037 ≤ d.tdiv 1000000000 ∧ d.tdiv 1000000000 ≤ 9223372037 ∧ -1000000000 < d.tmod 1000000000 ∧ d.tmod 1000000000 < 1000000000 := by
  have h1 := Int.tmod_add_mul_tdiv d 1000000000
  have h2 : d.tmod 1000000000 < 1000000000 := Int.tmod_lt_of_pos d (by decide)
  have h3 : -1000000000 < d.tmod 1000000000 := by
    have := Int.neg_tmod (a := d) (b := 1000000000)
    have h4 : (-d).tmod 1000000000 < 1000000000 := Int.tmod_lt_of_pos (-d) (by decide)
    omega
  generalize d.tmod 1000000000 = r at *
  generalize d.tdiv 1000000000 = q at *
  omega

/-- Where the years from 1 on to 1970 end, in nanoseconds. -/
def epoch : Int := 62135596800 * 1000000000

set_option maxHeartbeats 400000 in
theorem add_tm {w : World} (x d : Int) (x0 : 0 ≤ x) (x1 : x ≤ 90000000000 * 1000000000) (d0 : -9223372036854775808 ≤ d) (d1 : d ≤ 9223372036854775807) :
    Calls Tryz.prog 124 #[tmV x, .int .i64 d] w fun e w' => e = .returned (tmV (x + d)) ∧ Below w.heap.size w w' := by
  obtain ⟨h1, h2, h3, h4, h5⟩ := quo_bounds d d0 d1
  refine (add_any (w := w) (n := x % 1000000000) (s := x / 1000000000) (d := d) (by omega) (by omega) (by omega) (by omega) rfl rfl h2 h3 h4 h5).mono ?_
  rintro e w' ⟨n', s', rfl, he, n0, n1, hb⟩
  have hn : n' = (x + d) % 1000000000 := by omega
  have hs : s' = (x + d) / 1000000000 := by omega
  refine ⟨?_, hb⟩
  rw [hn, hs]; rfl

/-- A block that holds an instant. -/
def TmAt (w : World) (b : Nat) (x : Int) : Prop := w.heap[b]? = some (.cells #[.int .u64 (x % 1000000000), .int .i64 (x / 1000000000), .pointer none] 144 (0, 0))

/-- A variable of type Time, laid anew. -/
theorem layTm {w : World} {g : Nat} {o0 o1 o2 : Value} (hn : w.heap[g]? = some (.cells #[o0, o1, o2] 144 (0, 0))) (v0 v1 v2 : Value) :
    (((w.setCell ⟨g, 0, none⟩ v0).setCell ⟨g, 1, none⟩ v1).setCell ⟨g, 2, none⟩ v2).heap[g]? = some (.cells #[v0, v1, v2] 144 (0, 0)) := by
  have h1 := heap_setCell_same w g 0 _ _ v0 hn
  have h2 := heap_setCell_same _ g 1 _ _ v1 h1
  have h3 := heap_setCell_same _ g 2 _ _ v2 h2
  exact h3.trans (by simp)

theorem resTm {fn : Func} {p : Tmp} (h : fn.results = #[.cell p 144]) {tmps : Array Value} {w : World} {g : Nat} {cs : Array Value} (hp : tmps.getD p undef = .pointer (some ⟨g, 0, none⟩)) (hg : w.heap[g]? = some (.cells cs 144 (0, 0))) (hc : cs.size = 3) :
    (results fn tmps).run Tryz.prog w = .ok (.agg cs) w :=
  results_cell_row h tmps w g 144 cs (0, 0) _ hp hg Tryz.underlying144 rfl (by rw [hc]; kernel_rfl)

theorem TmAt.cells {w : World} {b : Nat} {x : Int} (h : TmAt w b x) : w.cell? ⟨b, 0, none⟩ = some (.int .u64 (x % 1000000000)) ∧ w.cell? ⟨b, 1, none⟩ = some (.int .i64 (x / 1000000000)) ∧ w.cell? ⟨b, 2, none⟩ = some (.pointer none) ∧ ∀ o, w.frozen? ⟨b, o, none⟩ = false :=
  ⟨cell_of_row w b 0 _ _ _ h, cell_of_row w b 1 _ _ _ h, cell_of_row w b 2 _ _ _ h, fun o => frozen_of_row w b o _ _ h⟩

theorem TmAt.is {w : World} {b : Nat} {x : Int} (h : TmAt w b x) : IsTm w b (x % 1000000000) (x / 1000000000) := ⟨h.cells.1, h.cells.2.1, by omega, by omega⟩

set_option maxHeartbeats 1600000 in
theorem unix_any {w : World} (ns : Int) (d0 : -9223372036854775808 ≤ ns) (d1 : ns ≤ 9223372036854775807) :
    Calls Tryz.prog 84 #[.int .i64 ns] w fun e w' => e = .returned (tmV (epoch + ns)) ∧ Below w.heap.size w w' := by
  go_enter Tryz.func84, Tryz.ntmps84
  go_wp2_with fail
  go_loopw [4] (fun i wr => ∃ k : Nat, k ≤ 8 ∧ i = .int .i64 k ∧ Hid (TmAt wr (w.heap.size + 1) (k * (7766949600 * 1000000000))) ∧ Hid (TmAt wr w.heap.size 0) ∧ Below w.heap.size w wr) (fun i _ => 8 - (intOf i).toNat)
  case atStart =>
    refine ⟨0, by omega, rfl, hid ?_, hid ?_, by go_grown⟩
    · have := heap_alloc_new (w.alloc (.cells #[.int .u64 0, .int .i64 0, .pointer none] 144)) (.cells #[.int .u64 0, .int .i64 0, .pointer none] 144)
      simp only [World.size_alloc] at this
      exact this
    · exact (Below.heap_alloc _ _ _ (by simp)).trans (heap_alloc_new _ _)
  case round =>
    obtain ⟨k, hk, rfl, ht, hz, hb⟩ := hrel
    obtain ⟨x, hx⟩ : ∃ x : Int, (k : Int) * (7766949600 * 1000000000) = x := ⟨_, rfl⟩
    have hx0 : 0 ≤ x := by omega
    have hx1 : x ≤ 62135596800 * 1000000000 := by omega
    rw [hx] at ht
    have HX := hid hx
    clear hx
    have HB := hid hb; clear hb
    obtain ⟨t0, t1, t2, tf⟩ := ht.out.cells
    by_cases h8 : k < 8
    · have e8 : (k : Int) < 8 := by omega
      go_wp2_with fail
      refine (add_tm x 7766949600000000000 (by omega) (by omega) (by omega) (by omega)).mono ?_
      rintro e w1 ⟨rfl, hb1⟩
      have hsz := HB.out.size
      have ht1 : TmAt w1 (w.heap.size + 1) x := (hb1.block _ (lt_of_block ht.out)).trans ht.out
      have hz1 : TmAt w1 w.heap.size 0 := (hb1.block _ (lt_of_block hz.out)).trans hz.out
      obtain ⟨s0, s1, s2, sf⟩ := ht1.cells
      have HT1 := hid ht1
      have HZ1 := hid hz1
      have HB1 := hid (HB.out.trans (hb1.mono hsz))
      clear t0 t1 t2 tf ht1 hz1 hb1 hsz ht hz HB
      unfold tmV
      go_wp2_with fail
      go_roundw
      case measure => simp [intOf]; omega
      case rel =>
        have hx2 : ((k + 1 : Nat) : Int) * (7766949600 * 1000000000) = x + 7766949600000000000 := by have := HX.out; omega
        refine ⟨k + 1, by omega, by go_num, hid ?_, hid ?_, ((HB1.out.setCell (by simp) _).setCell (by simp) _).setCell (by simp) _⟩
        · rw [hx2]
          exact layTm HT1.out _ _ _
        · unfold TmAt
          rw [heap_setCell_other _ _ _ _ (by simp), heap_setCell_other _ _ _ _ (by simp), heap_setCell_other _ _ _ _ (by simp)]
          exact HZ1.out
    · have e8 : ¬ (k : Int) < 8 := by omega
      have hk8 : k = 8 := by omega
      have hxe : x = epoch := by have := HX.out; unfold epoch; omega
      have HXE := hid hxe; clear hxe hk8
      obtain ⟨z0, z1, z2, zf⟩ := hz.out.cells
      go_wp2_with fail
      refine (add_tm x ns (by omega) (by omega) (by omega) (by omega)).mono ?_
      rintro e w1 ⟨rfl, hb1⟩
      have hsz := HB.out.size
      have hz1 : TmAt w1 w.heap.size 0 := (hb1.block _ (lt_of_block hz.out)).trans hz.out
      obtain ⟨s0, s1, s2, sf⟩ := hz1.cells
      have HZ1 := hid hz1
      have HB1 := hid (HB.out.trans (hb1.mono hsz))
      clear t0 t1 t2 tf hz1 hb1 hsz ht hz HB z0 z1 z2 zf
      unfold tmV
      go_wp2_with fail
      refine bodyPost_ret (resTm rfl rfl (layTm HZ1.out _ _ _) rfl) rfl ?_
      rw [← HXE.out]
      exact ⟨rfl, ((HB1.out.setCell (by simp) _).setCell (by simp) _).setCell (by simp) _⟩

set_option maxHeartbeats 400000 in
theorem unixSec_any {w : World} {b : Nat} {n s : Int} (h : IsTm w b n s) (s0 : 0 ≤ s) (s1 : s ≤ 90000000000) : Calls Tryz.prog 126 #[.pointer (some ⟨b, 0, none⟩)] w fun e w' => e = .returned (.int .i64 (s - 62135596800)) ∧ w = w' := by
  have H := hid h
  have e1 : s + -62135596800 = s - 62135596800 := by omega
  clear h
  go_enter Tryz.func126, Tryz.ntmps126
  go_wp2_with fail
  refine (sec_any H.out).mono ?_
  rintro e w1 ⟨rfl, rfl⟩
  go_wp2_with fail
  go_ret
  exact ⟨rfl, rfl⟩

theorem endEq1 (a b : Int) (h : a = b) : Ending.returned (.int .i64 a) = .returned (.int .i64 b) := by rw [h]

theorem IsTm.tm (w : World) (x : Int) : IsTm (w.alloc (.cells #[.int .u64 (x % 1000000000), .int .i64 (x / 1000000000), .pointer none] 144)) w.heap.size (x % 1000000000) (x / 1000000000) := IsTm.new w _ _ (by omega) (by omega)

set_option maxHeartbeats 800000 in
theorem nano_any {w : World} (ns : Int) (d0 : -9223372036854775808 ≤ ns) (d1 : ns ≤ 9223372036854775807) :
    Calls Tryz.prog 85 #[tmV (epoch + ns)] w fun e w' => e = .returned (.int .i64 ns) ∧ Below w.heap.size w w' := by
  have e1 : (epoch + ns) % 1000000000 = ns % 1000000000 := by unfold epoch; omega
  have e2 : (epoch + ns) / 1000000000 = 62135596800 + ns / 1000000000 := by unfold epoch; omega
  unfold tmV
  rw [e1, e2]
  obtain ⟨q, hq⟩ : ∃ q, ns / 1000000000 = q := ⟨_, rfl⟩
  obtain ⟨r, hr⟩ : ∃ r, ns % 1000000000 = r := ⟨_, rfl⟩
  have hqr : 1000000000 * q + r = ns := by omega
  have r0 : 0 ≤ r := by omega
  have r1 : r < 1000000000 := by omega
  have q0 : -9223372037 ≤ q := by omega
  have q1 : q ≤ 9223372036 := by omega
  rw [hq, hr]
  have HI := hid (IsTm.new w r (62135596800 + q) r0 r1)
  have HQR := hid hqr
  clear hq hr e1 e2 hqr
  go_enter Tryz.func85, Tryz.ntmps85
  go_wp2_with fail
  refine (unixSec_any HI.out (by omega) (by omega)).mono ?_; rintro e w1 ⟨rfl, rfl⟩
  go_wp2_with fail
  refine (nsec_any HI.out).mono ?_; rintro e w1 ⟨rfl, rfl⟩
  go_wp2_with fail
  go_ret
  refine ⟨endEq1 _ _ ?_, by go_grown⟩
  have := HQR.out
  unfold wrap64
  omega

theorem endEq (q a b : Int) (h : a = b) : Ending.returned (.tuple #[.int .i64 q, .int .i64 a]) = .returned (.tuple #[.int .i64 q, .int .i64 b]) := by rw [h]

set_option maxHeartbeats 800000 in
theorem div_any {w : World} (x d : Int) (x0 : 0 ≤ x) (x1 : x ≤ 90000000000 * 1000000000) (hd : d = 1 ∨ d = 1000 ∨ d = 1000000 ∨ d = 1000000000) :
    Calls Tryz.prog 151 #[tmV x, .int .i64 d] w fun e w' => (∃ q : Int, e = .returned (.tuple #[.int .i64 q, .int .i64 (x % d)])) ∧ Below w.heap.size w w' := by
  have HI := hid (IsTm.tm w x)
  unfold tmV
  rcases hd with rfl | rfl | rfl | rfl
  · skip
    go_enter Tryz.func151, Tryz.ntmps151
    go_wp2_with fail
    refine (nsec_any HI.out).mono ?_; rintro e w1 ⟨rfl, rfl⟩
    go_wp2_with fail
    refine (sec_any HI.out).mono ?_; rintro e w1 ⟨rfl, rfl⟩
    go_wp2_with fail
    go_ret2
    refine ⟨⟨_, endEq _ _ _ ?_⟩, by go_grown⟩
    omega
  · skip
    go_enter Tryz.func151, Tryz.ntmps151
    go_wp2_with fail
    refine (nsec_any HI.out).mono ?_; rintro e w1 ⟨rfl, rfl⟩
    go_wp2_with fail
    refine (sec_any HI.out).mono ?_; rintro e w1 ⟨rfl, rfl⟩
    go_wp2_with fail
    go_ret2
    refine ⟨⟨_, endEq _ _ _ ?_⟩, by go_grown⟩
    omega
  · skip
    go_enter Tryz.func151, Tryz.ntmps151
    go_wp2_with fail
    refine (nsec_any HI.out).mono ?_; rintro e w1 ⟨rfl, rfl⟩
    go_wp2_with fail
    refine (sec_any HI.out).mono ?_; rintro e w1 ⟨rfl, rfl⟩
    go_wp2_with fail
    go_ret2
    refine ⟨⟨_, endEq _ _ _ ?_⟩, by go_grown⟩
    omega
  · skip
    go_enter Tryz.func151, Tryz.ntmps151
    go_wp2_with fail
    refine (nsec_any HI.out).mono ?_; rintro e w1 ⟨rfl, rfl⟩
    go_wp2_with fail
    refine (sec_any HI.out).mono ?_; rintro e w1 ⟨rfl, rfl⟩
    go_wp2_with fail
    go_ret2
    refine ⟨⟨_, endEq _ _ _ ?_⟩, by go_grown⟩
    omega

/-- A precision's nanoseconds. -/
def ticksOf (p : Nat) : Int := if p = 0 then 1 else if p = 1 then 1000 else if p = 2 then 1000000 else 1000000000

theorem ticks_cases (p : Nat) : ticksOf p = 1 ∨ ticksOf p = 1000 ∨ ticksOf p = 1000000 ∨ ticksOf p = 1000000000 := by
  unfold ticksOf
  repeat' split
  all_goals simp

set_option maxHeartbeats 400000 in
theorem duration_any {w : World} (p : Nat) (hp : p ≤ 3) : Calls Tryz.prog 19 #[.int .u8 p] w fun e w' => e = .returned (.int .i64 (ticksOf p)) ∧ w = w' := by
  obtain rfl | rfl | rfl | rfl : p = 0 ∨ p = 1 ∨ p = 2 ∨ p = 3 := by omega
  all_goals
    go_enter Tryz.func19, Tryz.ntmps19
    go_wp2_with fail
    go_ret
    exact ⟨rfl, rfl⟩

set_option maxHeartbeats 800000 in
theorem truncate_any {w : World} (x d : Int) (x0 : 1000000000 ≤ x) (x1 : x ≤ 90000000000 * 1000000000) (hd : d = 1 ∨ d = 1000 ∨ d = 1000000 ∨ d = 1000000000) :
    Calls Tryz.prog 123 #[tmV x, .int .i64 d] w fun e w' => e = .returned (tmV (x - x % d)) ∧ Below w.heap.size w w' := by
  have HI := hid ((IsTm.tm w x).alloc (.cells #[.int .u64 0, .int .i64 0, .pointer none] 144) (by simp))
  have HD := hid (div_any (w := (w.alloc (.cells #[.int .u64 (x % 1000000000), .int .i64 (x / 1000000000), .pointer none] 144)).alloc (.cells #[.int .u64 0, .int .i64 0, .pointer none] 144)) x d (by omega) x1 hd)
  have hr : 0 ≤ x % d ∧ x % d < 1000000000 := by rcases hd with rfl | rfl | rfl | rfl <;> omega
  obtain ⟨r0, r1⟩ := hr
  have HA := fun w' => add_tm (w := w') x (-(x % d)) (by omega) x1 (by omega) (by omega)
  have e1 : x + -(x % d) = x - x % d := by omega
  rw [e1] at HA
  generalize x % d = r at *
  have hd0 : 0 < d := by rcases hd with rfl | rfl | rfl | rfl <;> omega
  have HA := hid HA
  clear e1 hd
  unfold tmV
  go_enter Tryz.func123, Tryz.ntmps123
  go_wp2_with fail
  refine (strip_any HI.out).mono ?_; rintro e w1 ⟨rfl, rfl⟩
  go_wp2_with fail
  refine HD.out.mono ?_
  rintro e w1 ⟨⟨q, rfl⟩, hb⟩
  have hw : TmAt w1 w.heap.size x := (hb.block _ (by simp; omega)).trans ((Below.heap_alloc _ _ _ (by simp)).trans (heap_alloc_new _ _))
  have hz : TmAt w1 (w.heap.size + 1) 0 := (hb.block _ (by simp)).trans (heap_alloc2_new _ _ _)
  have hbb : Below w.heap.size w w1 := (((Below.refl _ w).alloc (Nat.le_refl _) _).alloc (by simp) _).trans (hb.mono (by simp; omega))
  obtain ⟨t0, t1, t2, tf⟩ := hw.cells
  have HZ := hid hz
  have HB := hid hbb
  clear hb hw hz hbb HD HI
  go_wp2_with fail
  refine (HA.out _).mono ?_
  rintro e w2 ⟨rfl, hb2⟩
  have hsz := HB.out.size
  have hz2 : TmAt w2 (w.heap.size + 1) 0 := (hb2.block _ (lt_of_block HZ.out)).trans HZ.out
  obtain ⟨z0, z1, z2, zf⟩ := hz2.cells
  have HZ2 := hid hz2
  have HB2 := hid (HB.out.trans (hb2.mono hsz))
  clear hb2 hz2 HA t0 t1 t2 tf HB
  unfold tmV
  go_wp2_with fail
  refine bodyPost_ret (resTm rfl rfl (layTm HZ2.out _ _ _) rfl) rfl ?_
  exact ⟨rfl, ((HB2.out.setCell (by simp) _).setCell (by simp) _).setCell (by simp) _⟩

/-- A time's nanoseconds out of its number: none where they are out of range. -/
def nanosOf (p : Nat) (x : Int) : Int × Bool := if p = 0 then (x, true) else if (wrap64 ((wrap64 (x * ticksOf p)).tdiv (ticksOf p)) == x) = true then (wrap64 (x * ticksOf p), true) else (0, false)

set_option maxHeartbeats 800000 in
theorem asNanos_any {w : World} (p : Nat) (hp : p ≤ 3) (x : Int) : Calls Tryz.prog 41 #[.int .u8 p, .int .i64 x] w fun e w' => e = .returned (.tuple #[.int .i64 (nanosOf p x).1, .bool (nanosOf p x).2]) ∧ w = w' := by
  by_cases h0 : p = 0
  · subst h0
    go_enter Tryz.func41, Tryz.ntmps41
    go_wp2_with fail
    go_ret2
    exact ⟨rfl, rfl⟩
  · have e0 : ((p : Int) == 0) = false := by rw [beq_eq_false_iff_ne]; omega
    have ht : ticksOf p ≠ 0 := by rcases ticks_cases p with h | h | h | h <;> rw [h] <;> decide
    unfold nanosOf
    rw [if_neg h0]
    have HD := hid (duration_any (w := w) p hp)
    generalize ticksOf p = t at *
    have ht2 : (t == 0) = false := by rw [beq_eq_false_iff_ne]; exact ht
    clear h0
    by_cases hx : (wrap64 ((wrap64 (x * t)).tdiv t) == x) = true
    · rw [if_pos hx]
      go_enter Tryz.func41, Tryz.ntmps41
      go_wp2_with fail
      refine HD.out.mono ?_; rintro e w1 ⟨rfl, rfl⟩
      go_wp2_with fail
      go_ret2
      exact ⟨rfl, rfl⟩
    · rw [if_neg hx]
      have hx2 : (wrap64 ((wrap64 (x * t)).tdiv t) == x) = false := by simpa using hx
      clear hx
      go_enter Tryz.func41, Tryz.ntmps41
      go_wp2_with fail
      refine HD.out.mono ?_; rintro e w1 ⟨rfl, rfl⟩
      go_wp2_with fail
      go_ret2
      exact ⟨rfl, rfl⟩

set_option maxHeartbeats 400000 in
theorem doorNanos_any {w : World} (p : Nat) (hp : p ≤ 3) (x : Int) : Calls Tryz.prog 17 #[.int .u8 p, .int .i64 x] w fun e w' => e = .returned (.tuple #[.int .i64 (nanosOf p x).1, .bool (nanosOf p x).2]) ∧ w = w' := by
  have HD := hid (asNanos_any (w := w) p hp x)
  generalize nanosOf p x = r at *
  go_enter Tryz.func17, Tryz.ntmps17
  go_wp2_with fail
  refine HD.out.mono ?_; rintro e w1 ⟨rfl, rfl⟩
  go_wp2_with fail
  go_ret2
  exact ⟨rfl, rfl⟩
end Go.Proofs.YtejlokdcocacaaaGreatDoor

/- impl's Nanos and PrecisionNanos, with their deferred closures. -/
namespace Go.Proofs.YtejlokdcocacaaaGreatDoor
open Go.RowKit

theorem makeFunc_any (fn : Fn) (first cap : Array Value) (w : World) : (Instr.makeFunc fn first cap).run Tryz.prog w = .ok (.func fn first cap) w := rfl

set_option maxHeartbeats 400000 in
theorem catch16 (p q : Addr) (w : World) : CallsD Tryz.prog 16 #[.pointer (some p), .pointer (some q)] .returning w fun e u' w' => e = .returned (.tuple #[]) ∧ u' = .returning ∧ w' = w := by
  refine callsD_of_wpS Tryz.func16 rfl fun c₀ cs hu => ?_
  apply wpS_seq
  apply wpS_region
  simp [wpOpsS, go_sem, recoverD, hu, Tryz.ntmps16, Exit.thenS]
  refine wpS_cond (t := false) (by simp [Act.eval, Array.replicate]) ?_
  simp only [Bool.false_eq_true, if_false]
  refine wpS_of_wp (wp_skip ?_)
  cases c₀
  simp_all [bodyPostS, results, Tryz.results16]

set_option maxHeartbeats 400000 in
theorem catch18 (p q : Addr) (w : World) : CallsD Tryz.prog 18 #[.pointer (some p), .pointer (some q)] .returning w fun e u' w' => e = .returned (.tuple #[]) ∧ u' = .returning ∧ w' = w := by
  refine callsD_of_wpS Tryz.func18 rfl fun c₀ cs hu => ?_
  apply wpS_seq
  apply wpS_region
  simp [wpOpsS, go_sem, recoverD, hu, Tryz.ntmps18, Exit.thenS]
  refine wpS_cond (t := false) (by simp [Act.eval, Array.replicate]) ?_
  simp only [Bool.false_eq_true, if_false]
  refine wpS_of_wp (wp_skip ?_)
  cases c₀
  simp_all [bodyPostS, results, Tryz.results18]

set_option maxHeartbeats 400000 in
theorem catch11 (p q r : Addr) (w : World) : CallsD Tryz.prog 11 #[.pointer (some p), .pointer (some q), .pointer (some r)] .returning w fun e u' w' => e = .returned (.tuple #[]) ∧ u' = .returning ∧ w' = w := by
  refine callsD_of_wpS Tryz.func11 rfl fun c₀ cs hu => ?_
  apply wpS_seq
  apply wpS_region
  simp [wpOpsS, go_sem, recoverD, hu, Tryz.ntmps11, Exit.thenS]
  refine wpS_cond (t := false) (by simp [Act.eval, Array.replicate]) ?_
  simp only [Bool.false_eq_true, if_false]
  refine wpS_of_wp (wp_skip ?_)
  cases c₀
  simp_all [bodyPostS, results, Tryz.results11]

set_option maxHeartbeats 800000 in
theorem precNanos_any {w : World} (p : Nat) (hp : p ≤ 3) : Calls Tryz.prog 8 #[.int .i64 p] w fun e w' => e = .returned (.tuple #[.int .i64 (ticksOf p), .bool true]) ∧ Below w.heap.size w w' := by
  have hd := fun w' => duration_any (w := w') p hp
  have hmf := makeFunc_any
  have HD := hid hd
  clear hd
  have hp2 : (p : Int) ≤ 255 := by omega
  go_enter_defers Tryz.func8, Tryz.ntmps8
  go_wp2_with fail
  refine (HD.out _).mono ?_; rintro e w1 ⟨rfl, rfl⟩
  go_wp2_with fail
  refine leaves_cons (f := 18) (args := #[.pointer (some ⟨w.heap.size, 0, none⟩), .pointer (some ⟨w.heap.size + 1, 0, none⟩)]) (by simp) (by simp [go_sem]) ?_
  refine (catch18 _ _ _).mono ?_
  rintro e u' w'' ⟨rfl, rfl, rfl⟩
  simp [Leaves, settle, results, Tryz.results8, go_sem]
  go_grown

set_option maxHeartbeats 800000 in
theorem nanos_any {w : World} (p : Nat) (hp : p ≤ 3) (x : Int) : Calls Tryz.prog 7 #[.int .i64 p, .int .i64 x] w fun e w' => e = .returned (.tuple #[.int .i64 (nanosOf p x).1, .bool (nanosOf p x).2]) ∧ Below w.heap.size w w' := by
  have hd := fun w' => doorNanos_any (w := w') p hp x
  have hmf := makeFunc_any
  have HD := hid hd
  clear hd
  generalize nanosOf p x = r at *
  obtain ⟨n, ok⟩ := r
  cases ok
  all_goals
    simp only at HD ⊢
    have hp2 : (p : Int) ≤ 255 := by omega
    go_enter_defers Tryz.func7, Tryz.ntmps7
    go_wp2_with fail
    refine (HD.out _).mono ?_; rintro e w1 ⟨rfl, rfl⟩
    go_wp2_with fail
    refine leaves_cons (f := 16) (args := #[.pointer (some ⟨w.heap.size, 0, none⟩), .pointer (some ⟨w.heap.size + 1, 0, none⟩)]) (by simp) (by simp [go_sem]) ?_
    refine (catch16 _ _ _).mono ?_
    rintro e u' w'' ⟨rfl, rfl, rfl⟩
    simp [Leaves, settle, results, Tryz.results7, go_sem]
    go_grown
end Go.Proofs.YtejlokdcocacaaaGreatDoor
