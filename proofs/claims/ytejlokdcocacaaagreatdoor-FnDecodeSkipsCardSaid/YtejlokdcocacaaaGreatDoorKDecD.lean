
import Derived.Test.YtejlokdcocacaaaGreatDoorKDecA
namespace Go.Proofs.YtejlokdcocacaaaGreatDoor
open Go.RowKit

/-- A fault's line and column. -/
structure Flt where
  line : Int
  col : Int
  deriving DecidableEq

def colOf (l : List UInt8) : Int := if 0 ≤ lastB l 10 l.length then (l.length : Int) - (lastB l 10 l.length + 1) + 1 else (l.length : Int) + 1

/-- A fault at a place behind the entry's beginning. -/
def DSt.flt (s : DSt) (off : Nat) : Flt := ⟨s.line - (cntB ((s.t.take s.r1).drop (s.r0 + off)) 10 : Int), colOf ((s.t.take (s.r0 + off)).drop s.r0)⟩
def DSt.broke (s : DSt) : DSt := { s with sec := if s.sec = 5 then 5 else 4 }

/-- A new error of package errors. -/
def ErrStr (B Y : Nat) (w : World) : Prop := B ≤ Y ∧ ∃ s, w.heap[Y]? = some (.cells #[.string s] 169 (0, 0))

/-- The value of a fault: a new DecodeError over a new error. -/
def ErrIs (B : Nat) (f : Flt) (w : World) (v : Value) : Prop :=
  ∃ X Y, v = .iface 129 (.pointer (some ⟨X, 0, none⟩)) ∧ w.heap[X]? = some (.cells #[.int .i64 f.line, .int .i64 f.col, .iface 167 (.pointer (some ⟨Y, 0, none⟩))] 132 (0, 0)) ∧ B ≤ X ∧ ErrStr B Y w

theorem slice_len (s : DSt) (lo hi : Nat) (h2 : hi ≤ s.t.length) : ((s.t.take hi).drop lo).length = hi - lo := by simp; omega

/-- The last steps of syntaxErrorf, in plain words. -/
theorem err_fin {w w' : World} {B D T E : Nat} {sk : Bool} {s : DSt} (H : Rep w B D T E sk s) {off : Nat} {Y n : Nat} (hY : ErrStr B Y w) {l col : Int} (hl : l = (s.flt off).line) (hc : col = (s.flt off).col)
    (hw : w' = (if s.sec = 5 then w.drewN n else (w.drewN n).setCell ⟨D, 5, none⟩ (.int .u8 4)).alloc (.cells #[.int .i64 l, .int .i64 col, .iface 167 (.pointer (some ⟨Y, 0, none⟩))] 132)) :
    DP B D T E sk w s.broke (ErrIs B (s.flt off)) (.returned (.iface 129 (.pointer (some ⟨w.heap.size, 0, none⟩)))) w' := by
  have hB := H.lt
  obtain ⟨hY1, ss, hY2⟩ := hY
  have hYl := lt_of_block hY2
  have hYD : Y ≠ D := by
    intro e
    subst e
    obtain ⟨C, ec, _, _, hd, _⟩ := H.dec
    unfold IsDec at hd
    rw [hY2] at hd
    simp at hd
  subst hl hc
  by_cases h5 : s.sec = 5
  · rw [if_pos h5] at hw
    subst hw
    refine ⟨E, _, rfl, ⟨w.heap.size, Y, rfl, heap_alloc_new (w.drewN n) _, by have := H.bD; omega, hY1, ss, (Below.heap_alloc (w.drewN n) _ _ hYl).trans hY2⟩, ?_, ((Stp.refl D E w).drewN n).alloc _⟩
    have e : s.broke = s := by unfold DSt.broke; rw [if_pos h5]; cases s; simp_all
    rw [e]
    exact (H.drewN n).alloc _
  · rw [if_neg h5] at hw
    subst hw
    refine ⟨E, _, rfl, ⟨w.heap.size, Y, rfl, ?_, by have := H.bD; omega, hY1, ss, by rw [Below.heap_alloc _ _ _ (by simp [World.setCell]; exact hYl), Below.heap_setCell _ _ _ _ hYD]; exact hY2⟩, ?_, (((Stp.refl D E w).drewN n).setD _ _).alloc _⟩
    · have h6 := heap_alloc_new ((w.drewN n).setCell ⟨D, 5, none⟩ (.int .u8 4)) (.cells #[.int .i64 (s.flt off).line, .int .i64 (s.flt off).col, .iface 167 (.pointer (some ⟨Y, 0, none⟩))] 132)
      rw [show ((w.drewN n).setCell ⟨D, 5, none⟩ (.int .u8 4)).heap.size = w.heap.size by simp [World.setCell]] at h6
      exact h6
    · have h7 := ((H.drewN n).setSec 4 (by omega)).alloc (.cells #[.int .i64 (s.flt off).line, .int .i64 (s.flt off).col, .iface 167 (.pointer (some ⟨Y, 0, none⟩))] 132)
      have e : s.broke = { s with sec := 4 } := by unfold DSt.broke; rw [if_neg h5]
      rw [e]
      exact h7

theorem slv0 {T lo hi C k : Nat} (h : C = lo) (hk : k = 0) : Value.slice (some ⟨T, 0, none⟩) (hi - lo) k = sliced (some ⟨T, 0, none⟩) lo hi C 1 := by
  simp [sliced, h, hk]
theorem slv1 {T lo hi C k : Nat} (h : C ≠ lo) (hk : k = C - lo) : Value.slice (some ⟨T, lo, none⟩) (hi - lo) k = sliced (some ⟨T, 0, none⟩) lo hi C 1 := by
  simp [sliced, h, hk, Addr.add]

set_option maxHeartbeats 2000000 in
theorem syntaxErr_any {w : World} {B D T E : Nat} {sk : Bool} {s : DSt} (h : Rep w B D T E sk s) (hk : s.Ok) (off : Nat) (ho : s.r0 + off ≤ s.r1) (offv : Int) (hoff : offv = off) (Y : Nat) (hY : ErrStr B Y w) :
    Calls Tryz.prog 57 #[.pointer (some ⟨D, 0, none⟩), .int .i64 offv, .iface 167 (.pointer (some ⟨Y, 0, none⟩))] w (DP B D T E sk w s.broke (ErrIs B (s.flt off))) := by
  subst hoff
  obtain ⟨C, ec, hd, q1, q2, q3, q4, c0, c1, c2, c3, c4, c5, c6, c7, c8, c9, fz, hown⟩ := h.cellsD
  have b1 := h.le1
  have b2 := h.small
  have H := hid h; clear h
  have HY := hid hY; clear hY
  have hl1 : (0 : Int) ≤ s.line := hk.1
  have hl2 : s.line ≤ 5000 := by have := hk.2; omega
  clear hown c0 c4 c6 c7 c9 q3 q4 hk hd
  have hb1 : (0 : Int) ≤ (s.r0 : Int) := by omega
  have hb2 : (s.r0 : Int) ≤ (s.r0 : Int) + (off : Int) := by omega
  have hb3 : (s.r0 : Int) + (off : Int) ≤ (C : Int) := by omega
  have hb4 : (s.r0 : Int) + (off : Int) ≤ (s.r1 : Int) := by omega
  have hb5 : (s.r1 : Int) ≤ (C : Int) := by omega
  have hb6 : (0 : Int) ≤ (s.r0 : Int) + (off : Int) := by omega
  obtain ⟨buf, hbuf⟩ : ∃ buf, (s.t.take (s.r0 + off)).drop s.r0 = buf := ⟨_, rfl⟩
  have hbl : buf.length = off := by rw [← hbuf, slice_len s _ _ (by omega)]; omega
  obtain ⟨i, hi⟩ : ∃ i, lastB buf 10 off = i := ⟨_, rfl⟩
  have hib := lastB_le buf 10 off
  rw [hi] at hib
  obtain ⟨n, hn⟩ : ∃ n, cntB ((s.t.take s.r1).drop (s.r0 + off)) 10 = n := ⟨_, rfl⟩
  have hnb : n ≤ 900 := by rw [← hn]; exact Nat.le_trans (cntB_le _ _) (by simp; omega)
  have hcol : (s.flt off).col = if 0 ≤ i then (off : Int) - (i + 1) + 1 else (off : Int) + 1 := by
    simp only [DSt.flt, colOf, hbuf, hbl, hi]
  have hline : (s.flt off).line = s.line - (n : Int) := by simp only [DSt.flt, hn]
  have hBuf := fun m => slice_text (H.out.drewN m) C s.r0 (s.r0 + off) q1 q2 (by omega) (by omega)
  have hRem := fun m => slice_text (H.out.drewN m) C (s.r0 + off) s.r1 q1 q2 (by omega) (by omega)
  rw [hbuf] at hBuf
  have HBuf := hid hBuf; clear hBuf
  have HRem := hid hRem; clear hRem
  have HI := hid hi; clear hi
  have HN := hid hn; clear hn
  have HC := hid hcol; clear hcol
  have HL := hid hline; clear hline
  have HBL := hid hbl; clear hbl hbuf
  obtain ⟨hi1, hi2⟩ := hib
  go_enter Tryz.func57, Tryz.ntmps57
  go_wp2
  go_quiet (fail)
  go_wp2_with fail
  all_goals
    refine (lastIndex_any (l := buf) ?hb (by rw [HBL.out]; omega) 10 10 rfl).mono ?_
    case hb =>
      have := HBuf.out nq
      first
        | (have e : C = s.r0 := by assumption
           simp only [sliced, e, if_true, Nat.sub_self] at this
           rw [show s.r0 + off - s.r0 = off by omega] at this
           exact this)
        | (have := bytes_at this (by assumption)
           rw [show s.r0 + off - s.r0 = off by omega] at this
           exact this)
    rintro e w1 ⟨rfl, rfl⟩
    rw [HBL.out, HI.out]
  · have hi0 : ¬ 0 ≤ i := by omega
    go_wp2
    all_goals
      go_quiet (fail)
      go_wp2_with fail
    all_goals
      have hcnt : ∀ m x v, BytesIs w v ((s.t.take s.r1).drop (s.r0 + off)) → Calls Tryz.prog 100 #[v, .int .u8 10] (w.drewN (m + x)) fun e w'' => e = .returned (.int .i64 (n : Int)) ∧ ∃ q, w'' = w.drewN (m + q) := fun m x v hv => by
        have := count_any (hv.drewN (m + x)) (by simp; omega) 10 10 rfl
        rw [HN.out] at this
        exact this.mono fun _ _ ⟨he, hm⟩ => ⟨he, x, hm⟩
      have hrem : ∀ a c, (.slice a (s.r1 - (s.r0 + off)) c) = sliced (some ⟨T, 0, none⟩) (s.r0 + off) s.r1 C 1 → BytesIs w (.slice a (s.r1 - (s.r0 + off)) c) ((s.t.take s.r1).drop (s.r0 + off)) := fun a c hv => by rw [hv]; exact HRem.out 0
      have HCnt := hid hcnt; clear hcnt
      have HR2 := hid hrem; clear hrem
      by_cases hs5 : s.sec = 5
      · have e5 : ((s.sec : Int) != 5) = false := by rw [bne_eq_false_iff_eq]; omega
        have H5 := hid hs5; clear hs5
        go_quiet ((go_at_call 100; exact HCnt.out _ _ _ (HR2.out _ _ (by first | exact slv0 (by omega) (by omega) | exact slv1 (by omega) rfl))))
        go_wp2
        go_ret
        apply err_fin H.out HY.out HL.out.symm
        case hw => rw [if_pos H5.out]
        case hc => rw [HC.out]; split <;> omega
      · have e5 : ((s.sec : Int) != 5) = true := by rw [bne_iff_ne]; omega
        have H5 := hid hs5; clear hs5
        go_quiet ((go_at_call 100; exact HCnt.out _ _ _ (HR2.out _ _ (by first | exact slv0 (by omega) (by omega) | exact slv1 (by omega) rfl))))
        go_wp2
        go_ret
        apply err_fin H.out HY.out HL.out.symm
        case hw => rw [if_neg H5.out]
        case hc => rw [HC.out]; split <;> omega
  by_cases hi0 : 0 ≤ i
  · skip
    go_wp2
    all_goals
      go_quiet (fail)
      go_wp2_with fail
    all_goals
      have hcnt : ∀ m x v, BytesIs w v ((s.t.take s.r1).drop (s.r0 + off)) → Calls Tryz.prog 100 #[v, .int .u8 10] (w.drewN (m + x)) fun e w'' => e = .returned (.int .i64 (n : Int)) ∧ ∃ q, w'' = w.drewN (m + q) := fun m x v hv => by
        have := count_any (hv.drewN (m + x)) (by simp; omega) 10 10 rfl
        rw [HN.out] at this
        exact this.mono fun _ _ ⟨he, hm⟩ => ⟨he, x, hm⟩
      have hrem : ∀ a c, (.slice a (s.r1 - (s.r0 + off)) c) = sliced (some ⟨T, 0, none⟩) (s.r0 + off) s.r1 C 1 → BytesIs w (.slice a (s.r1 - (s.r0 + off)) c) ((s.t.take s.r1).drop (s.r0 + off)) := fun a c hv => by rw [hv]; exact HRem.out 0
      have HCnt := hid hcnt; clear hcnt
      have HR2 := hid hrem; clear hrem
      by_cases hs5 : s.sec = 5
      · have e5 : ((s.sec : Int) != 5) = false := by rw [bne_eq_false_iff_eq]; omega
        have H5 := hid hs5; clear hs5
        go_quiet ((go_at_call 100; exact HCnt.out _ _ _ (HR2.out _ _ (by first | exact slv0 (by omega) (by omega) | exact slv1 (by omega) rfl))))
        go_wp2
        go_ret
        apply err_fin H.out HY.out HL.out.symm
        case hw => rw [if_pos H5.out]
        case hc => rw [HC.out]; split <;> omega
      · have e5 : ((s.sec : Int) != 5) = true := by rw [bne_iff_ne]; omega
        have H5 := hid hs5; clear hs5
        go_quiet ((go_at_call 100; exact HCnt.out _ _ _ (HR2.out _ _ (by first | exact slv0 (by omega) (by omega) | exact slv1 (by omega) rfl))))
        go_wp2
        go_ret
        apply err_fin H.out HY.out HL.out.symm
        case hw => rw [if_neg H5.out]
        case hc => rw [HC.out]; split <;> omega
  · skip
    go_wp2
    all_goals
      go_quiet (fail)
      go_wp2_with fail
    all_goals
      have hcnt : ∀ m x v, BytesIs w v ((s.t.take s.r1).drop (s.r0 + off)) → Calls Tryz.prog 100 #[v, .int .u8 10] (w.drewN (m + x)) fun e w'' => e = .returned (.int .i64 (n : Int)) ∧ ∃ q, w'' = w.drewN (m + q) := fun m x v hv => by
        have := count_any (hv.drewN (m + x)) (by simp; omega) 10 10 rfl
        rw [HN.out] at this
        exact this.mono fun _ _ ⟨he, hm⟩ => ⟨he, x, hm⟩
      have hrem : ∀ a c, (.slice a (s.r1 - (s.r0 + off)) c) = sliced (some ⟨T, 0, none⟩) (s.r0 + off) s.r1 C 1 → BytesIs w (.slice a (s.r1 - (s.r0 + off)) c) ((s.t.take s.r1).drop (s.r0 + off)) := fun a c hv => by rw [hv]; exact HRem.out 0
      have HCnt := hid hcnt; clear hcnt
      have HR2 := hid hrem; clear hrem
      by_cases hs5 : s.sec = 5
      · have e5 : ((s.sec : Int) != 5) = false := by rw [bne_eq_false_iff_eq]; omega
        have H5 := hid hs5; clear hs5
        go_quiet ((go_at_call 100; exact HCnt.out _ _ _ (HR2.out _ _ (by first | exact slv0 (by omega) (by omega) | exact slv1 (by omega) rfl))))
        go_wp2
        go_ret
        apply err_fin H.out HY.out HL.out.symm
        case hw => rw [if_pos H5.out]
        case hc => rw [HC.out]; split <;> omega
      · have e5 : ((s.sec : Int) != 5) = true := by rw [bne_iff_ne]; omega
        have H5 := hid hs5; clear hs5
        go_quiet ((go_at_call 100; exact HCnt.out _ _ _ (HR2.out _ _ (by first | exact slv0 (by omega) (by omega) | exact slv1 (by omega) rfl))))
        go_wp2
        go_ret
        apply err_fin H.out HY.out HL.out.symm
        case hw => rw [if_neg H5.out]
        case hc => rw [HC.out]; split <;> omega
end Go.Proofs.YtejlokdcocacaaaGreatDoor
