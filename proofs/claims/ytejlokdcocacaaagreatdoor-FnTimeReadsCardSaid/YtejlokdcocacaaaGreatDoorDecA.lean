/- The decoder's small methods: ensure, at, advance, take, takeEOL, reset. -/
import Derived.Test.YtejlokdcocacaaaGreatDoorEsc
import Derived.Deep.LoopGhost
namespace Go.Proofs.YtejlokdcocacaaaGreatDoor
open Go.RowKit

set_option maxHeartbeats 400000 in
theorem ensure1_any {w : World} {B D T E : Nat} {sk : Bool} {s : DSt} (h : Rep w B D T E sk s) (n : Int) :
    Calls Tryz.prog 99 #[.pointer (some ⟨D, 0, none⟩), .int .i64 n] w fun e w' => e = .returned (.bool false) ∧ w' = w := by
  obtain ⟨C, ec, q1, q2, q3, q4, c0, c1, c2, c3, c4, c5, c6, c7, c8, c9, fz, ho⟩ := h.cells
  clear ho c0 c2 c5 c6 c7 c8 c9 fz h
  go_enter Tryz.func99, Tryz.ntmps99
  go_wp2
  refine wp_loop_rounds 1 ?_; rw [rounds_succ]
  go_wp2
  go_ret
  exact ⟨rfl, rfl⟩

/-- Whether so many bytes are left. -/
def DSt.has (s : DSt) (n : Nat) : Bool := decide (s.r1 + n ≤ s.t.length)

set_option maxHeartbeats 400000 in
theorem ensure_any {w : World} {B D T E : Nat} {sk : Bool} {s : DSt} (h : Rep w B D T E sk s) (n : Nat) (h1 : n ≤ 10000) (m : Int) (hm : m = n) :
    Calls Tryz.prog 52 #[.pointer (some ⟨D, 0, none⟩), .int .i64 m] w fun e w' => e = .returned (.bool (s.has n)) ∧ ∃ m, w' = w.drewN m := by
  subst hm
  obtain ⟨C, ec, q1, q2, q3, q4, c0, c1, c2, c3, c4, c5, c6, c7, c8, c9, fz, ho⟩ := h.cells
  have b1 := h.le1
  have b2 := h.small
  clear ho c0 c2 c4 c5 c6 c7 c8 c9 fz
  by_cases hc : (s.r1 : Int) + (n : Int) ≤ (s.t.length : Int)
  · clear h
    go_enter Tryz.func52, Tryz.ntmps52
    go_wp2
    go_quiet (fail)
    go_wp2
    go_ret
    exact ⟨by rw [show s.has n = true by simp [DSt.has]; omega]; rfl, nq, rfl⟩
  · have h' := fun m => (h.drewN m)
    clear h
    go_enter Tryz.func52, Tryz.ntmps52
    go_wp2
    go_quiet (fail)
    go_wp2_with (go_at_call 99; refine (ensure1_any (h' nq) _).mono ?_; rintro e w' ⟨rfl, rfl⟩)
    go_ret
    exact ⟨by rw [show s.has n = false by simp [DSt.has]; omega]; rfl, nq, rfl⟩

/-- The byte so many places on, 0 behind the end. -/
def DSt.at (s : DSt) (n : Nat) : UInt8 := s.t.getD (s.r1 + n) 0

set_option maxHeartbeats 400000 in
theorem at_any {w : World} {B D T E : Nat} {sk : Bool} {s : DSt} (h : Rep w B D T E sk s) (n : Nat) (h1 : n ≤ 10000) (m : Int) (hm : m = n) :
    Calls Tryz.prog 63 #[.pointer (some ⟨D, 0, none⟩), .int .i64 m] w fun e w' => e = .returned (.int .u8 ((s.at n).toNat : Int)) ∧ ∃ m, w' = w.drewN m := by
  subst hm
  obtain ⟨C, ec, q1, q2, q3, q4, c0, c1, c2, c3, c4, c5, c6, c7, c8, c9, fz, ho⟩ := h.cells
  have b1 := h.le1
  have b2 := h.small
  have hb := h.byte
  clear ho c0 c2 c5 c6 c7 c8 c9 fz h c4
  by_cases hc : (s.r1 : Int) + (n : Int) < (s.t.length : Int)
  · have hn := hb (s.r1 + n) (by omega)
    have e : s.at n = s.t[s.r1 + n]'(by omega) := by simp [DSt.at, List.getD, show s.r1 + n < s.t.length by omega]
    rw [← e] at hn
    clear hb e
    have hi : ((s.r1 : Int) + (n : Int)).toNat = s.r1 + n := by omega
    generalize s.at n = x at *
    have hi0 : (0 : Int) ≤ (s.r1 : Int) + (n : Int) := by omega
    go_enter Tryz.func63, Tryz.ntmps63
    go_wp2
    go_quiet (fail)
    go_wp2
    go_quiet (fail)
    go_wp2
    go_ret
    exact ⟨rfl, _, World.drewN_drewN _ _ _⟩
  · clear hb
    go_enter Tryz.func63, Tryz.ntmps63
    go_wp2
    go_quiet (fail)
    go_wp2
    go_ret
    exact ⟨by simp [DSt.at, List.getD, show ¬ s.r1 + n < s.t.length by omega], nq, rfl⟩

set_option maxHeartbeats 400000 in
theorem advance_any {w : World} {B D T E : Nat} {sk : Bool} {s : DSt} (h : Rep w B D T E sk s) (n : Nat) (hn : s.r1 + n ≤ s.t.length) (m : Int) (hm : m = n) :
    Calls Tryz.prog 67 #[.pointer (some ⟨D, 0, none⟩), .int .i64 m] w (DP B D T E sk w { s with r1 := s.r1 + n } fun _ v => v = .tuple #[]) := by
  subst hm
  obtain ⟨C, ec, q1, q2, q3, q4, c0, c1, c2, c3, c4, c5, c6, c7, c8, c9, fz, ho⟩ := h.cells
  have b2 := h.small
  have H := hid h; clear h
  clear ho c0 c1 c2 c4 c5 c6 c7 c8 c9
  go_enter Tryz.func67, Tryz.ntmps67
  go_wp2
  go_end0
  refine ⟨E, _, rfl, rfl, ?_, (Stp.refl _ _ _).setD _ _⟩
  have := H.out.setR1 (s.r1 + n) (by have := H.out.le0; omega) hn
  simpa using this

/-- How many bytes of a set stand next. -/
def DSt.run (s : DSt) (f : Nat → Bool) : Nat := (s.rest.takeWhile fun c => f c.toNat).length

theorem DSt.rest_len (s : DSt) : s.rest.length = s.t.length - s.r1 := by simp [DSt.rest]
theorem DSt.run_le (s : DSt) (f : Nat → Bool) : s.run f ≤ s.t.length - s.r1 := by
  have := (List.takeWhile_sublist (l := s.rest) (fun c : UInt8 => f c.toNat)).length_le
  rw [DSt.rest_len] at this
  exact this

/-- A part of the decoder's text, as a slice. -/
theorem slice_text {w : World} {B D T E : Nat} {sk : Bool} {s : DSt} (h : Rep w B D T E sk s) (C lo hi : Nat) (hC : s.t.length ≤ C) (hm : C ≤ maxLen) (h1 : lo ≤ hi) (h2 : hi ≤ s.t.length) :
    BytesIs w (sliced (some ⟨T, 0, none⟩) lo hi C 1) ((s.t.take hi).drop lo) := by
  have hl : ((s.t.take hi).drop lo).length = hi - lo := by simp; omega
  have hT := h.lt.2.1
  by_cases hc : C = lo
  · refine ⟨T, 0, C - lo, by rw [hl]; simp [sliced, hc], by omega, by omega, hT, fun i hi' => ?_⟩
    exfalso; rw [hl] at hi'; omega
  · refine ⟨T, lo, C - lo, ?_, by omega, by omega, hT, fun i hi' => ?_⟩
    · rw [hl]
      simp only [sliced, if_neg hc, Option.map_some, Nat.mul_one]
      congr 2
      unfold Addr.add
      split
      · simp_all
      · simp
    · rw [hl] at hi'
      rw [h.byte (lo + i) (by omega)]
      simp

theorem take_stop {l : List UInt8} {f : UInt8 → Bool} {k : Nat} (hk : k < l.length) (ha : ∀ j (h : j < k), f (l[j]'(by omega)) = true) (hf : f l[k] = false) : (l.takeWhile f).length = k := by
  induction l generalizing k with
  | nil => simp at hk
  | cons c l ih =>
    cases k with
    | zero => simp at hf; simp [hf]
    | succ k =>
      have h0 : f c = true := ha 0 (by omega)
      simp only [List.takeWhile_cons, h0, if_true, List.length_cons]
      rw [ih (k := k) (by simpa using hk) (fun j hj => by have := ha (j + 1) (by omega); simpa using this) (by simpa using hf)]

theorem take_all {l : List UInt8} {f : UInt8 → Bool} (ha : ∀ j (h : j < l.length), f l[j] = true) : (l.takeWhile f).length = l.length := by
  induction l with
  | nil => rfl
  | cons c l ih =>
    have h0 : f c = true := ha 0 (by simp)
    simp only [List.takeWhile_cons, h0, if_true, List.length_cons]
    rw [ih (fun j hj => by have := ha (j + 1) (by simpa using hj); simpa using this)]

theorem run_stop {s : DSt} {f : Nat → Bool} {k : Nat} (hk : s.r1 + k < s.t.length) (hall : ∀ j (_ : j < k), ∃ h2 : s.r1 + j < s.t.length, f (s.t[s.r1 + j]'h2).toNat = true) (hf : f (s.t[s.r1 + k]'hk).toNat = false) : s.run f = k := by
  unfold DSt.run
  refine take_stop (k := k) (by rw [DSt.rest_len]; omega) (fun j hj => ?_) ?_
  · obtain ⟨h2, h3⟩ := hall j hj
    simpa [DSt.rest] using h3
  · simpa [DSt.rest] using hf

theorem run_end {s : DSt} {f : Nat → Bool} {n : Nat} (hn : n = s.t.length - s.r1) (hall : ∀ j (_ : j < n), ∃ h2 : s.r1 + j < s.t.length, f (s.t[s.r1 + j]'h2).toNat = true) : s.run f = n := by
  unfold DSt.run
  rw [take_all (fun j hj => ?_), DSt.rest_len, hn]
  obtain ⟨h2, h3⟩ := hall j (by rw [DSt.rest_len] at hj; omega)
  simpa [DSt.rest] using h3

theorem bytes_at {w : World} {T lo hi C : Nat} {l : List UInt8} (h : BytesIs w (sliced (some ⟨T, 0, none⟩) lo hi C 1) l) (hc : ¬ C = lo) : BytesIs w (.slice (some ⟨T, lo, none⟩) (hi - lo) (C - lo)) l := by
  have e : sliced (some ⟨T, 0, none⟩) lo hi C 1 = .slice (some ⟨T, lo, none⟩) (hi - lo) (C - lo) := by
    simp only [sliced, if_neg hc, Option.map_some, Nat.mul_one]
    congr 2
    unfold Addr.add
    split
    · simp_all
    · simp
  rw [← e]; exact h

set_option maxHeartbeats 1000000 in
theorem take_any {w : World} {B D T E : Nat} {sk : Bool} {s : DSt} {S : Nat} {f : Nat → Bool} (h : Rep w B D T E sk s) (hS : SetIs w S f) (hSD : S ≠ D) :
    Calls Tryz.prog 64 #[.pointer (some ⟨D, 0, none⟩), .pointer (some ⟨S, 0, none⟩)] w (DP B D T E sk w { s with r1 := s.r1 + s.run f } fun w' v => BytesIs w' v ((s.t.take (s.r1 + s.run f)).drop s.r1)) := by
  obtain ⟨C, ec, q1, q2, q3, q4, c0, c1, c2, c3, c4, c5, c6, c7, c8, c9, fz, ho⟩ := h.cells
  have b1 := h.le0
  have b2 := h.small
  have b3 := h.le1
  have hrun := s.run_le f
  have H := hid h; clear h
  have HS := hid hS; clear hS
  go_enter Tryz.func64, Tryz.ntmps64
  go_wp2
  go_step3
  go_wp2
  go_quiet (fail)
  go_wp2
  go_step3
  go_wp2
  clear ho c0 c1 c2 c3 c4 c5 c6 c7 c8 c9 fz
  go_loopg [] 2 (fun g wr => ∃ r : Nat, (g = 2 ∧ r = s.r1 ∨ g = 1 ∧ r = s.t.length ∧ s.run f = s.t.length - s.r1) ∧ Rep wr B D T E sk { s with r1 := r } ∧ Stp D E w E wr)
  case atStart => exact ⟨s.r1, .inl ⟨rfl, rfl⟩, H.out.drewN _, (Stp.refl _ _ _).drewN _⟩
  case round =>
    obtain ⟨r, hr, hrep, hstp⟩ := hrel
    have HG := hid hr; clear hr
    have Hrep := hid hrep; clear hrep
    have Hstp := hid hstp; clear hstp
    go_wp2_with fail
    refine (ensure_any Hrep.out 1 (by omega) 1 rfl).mono ?_; rintro e w1 ⟨rfl, n1, rfl⟩
    have he : (s.r0 : Int) + ((s.r1 : Int) - (s.r0 : Int)) = (s.r1 : Int) := by omega
    have hb0 : (0 : Int) ≤ (s.r1 : Int) := by omega
    by_cases hlt : r < s.t.length
    · have hb : (DSt.has { s with r1 := r } 1) = true := by simp [DSt.has]; omega
      rw [hb]
      clear hb
      obtain ⟨rfl, rfl⟩ : r = s.r1 ∧ gk = 2 := by have := HG.out; omega
      have Hr : Hid (Rep wr B D T E sk s) := Hrep
      clear Hrep HG
      obtain ⟨C, ec, q1, q2, q3, q4, c0, c1, c2, c3, c4, c5, c6, c7, c8, c9, fz, ho⟩ := Hr.out.cells
      have hne : ¬ C = s.r1 := by omega
      have hrl : (s.r1 : Int) ≤ (s.t.length : Int) := by omega
      clear ho c0 c4 c5 c6 c7 c8 c9 q3 q4
      go_wp2_with fail
      go_quiet (fail)
      go_wp2
      have hbyte := Hr.out.byte
      have HB := hid hbyte; clear hbyte
      have hD3 := fz 3
      obtain ⟨n, hn⟩ : ∃ n, n = s.t.length - s.r1 := ⟨_, rfl⟩
      rw [← hn]
      have HN := hid hn
      have hn1 : n + s.r1 ≤ s.t.length := by omega
      have hn2 : s.t.length ≤ n + s.r1 := by omega
      clear hn
      clear fz hne hrl
      go_loopg [32] n (fun g i wx => ∃ k : Nat, k + g = n ∧ i = .int .i64 k ∧ (∀ j (_ : j < k), ∃ h2 : s.r1 + j < s.t.length, f (s.t[s.r1 + j]'h2).toNat = true) ∧ ∃ m, wx = wr.drewN m)
      case atStart => exact ⟨0, by omega, rfl, fun j hj => by omega, _, rfl⟩
      case round =>
        obtain ⟨k, hkg, rfl, hall, m, rfl⟩ := hrel
        have HA := hid hall; clear hall
        cases gk with
        | zero =>
          obtain rfl : k = n := by omega
          go_wp2
          go_roundg 1
          case measure => omega
          case rel =>
            have hrun := run_end HN.out HA.out
            have e : s.t.length = s.r1 + k := by omega
            refine ⟨s.t.length, .inr ⟨rfl, rfl, by rw [hrun]; exact HN.out⟩, ?_, ?_⟩
            · have := (Hr.out.setR1 s.t.length (by omega) (Nat.le_refl _)).drewN m
              rw [show (s.t.length : Int) = (s.r1 : Int) + (k : Int) by omega] at this
              exact this
            · exact (Hstp.out.setD _ _).drewN _
        | succ g2 =>
          have hkn : (k : Int) < (n : Int) := by omega
          have hcell := HB.out (s.r1 + k) (by omega)
          have hcS := fun c => get_any (w := wr.drewN m) (S := S) (f := f) (by
            have : SetIs wr S f := by
              unfold SetIs
              rw [Hstp.out.block S HS.out.lt hSD]; exact HS.out
            exact this) c
          generalize hc : s.t[s.r1 + k]'(by omega) = c at *
          have HC := hid hc; clear hc
          cases hfc : f c.toNat
          · have HF := hid hfc
            go_wp2_with (go_at_call 62; refine (hcS c).mono ?_; rintro e w' ⟨rfl, rfl⟩)
            have hb1 : (s.r1 : Int) ≤ (s.r1 : Int) + (k : Int) := by omega
            have hb2 : (s.r1 : Int) + (k : Int) ≤ (C : Int) := by omega
            go_quiet (fail)
            go_wp2
            rw [Exit.noGoto_ret]
            go_ret
            have hrun := run_stop (by omega) HA.out (by rw [HC.out]; exact HF.out)
            rw [hrun]
            have hR := ((Hr.out.drewN m).setR1 (s.r1 + k) (by omega) (by omega)).drewN nq
            rw [show ((s.r1 + k : Nat) : Int) = (s.r1 : Int) + (k : Int) by omega] at hR
            exact ⟨E, _, rfl, bytes_at (slice_text hR C s.r1 (s.r1 + k) q1 q2 (by omega) (by show s.r1 + k ≤ s.t.length; omega)) (by omega), hR, ((Hstp.out.drewN _).setD _ _).drewN _⟩
          · go_wp2_with (go_at_call 62; refine (hcS c).mono ?_; rintro e w' ⟨rfl, rfl⟩)
            go_roundg g2
            case measure => omega
            case rel =>
              refine ⟨k + 1, by omega, by go_num, fun j hj => ?_, _, rfl⟩
              by_cases hjk : j = k
              · subst hjk
                exact ⟨by omega, by rw [HC.out]; exact hfc⟩
              · exact HA.out j (by omega)
    · have hb : (DSt.has { s with r1 := r } 1) = false := by simp [DSt.has]; omega
      rw [hb]
      clear hb
      have hr2 : r = s.t.length ∧ s.run f = s.t.length - s.r1 := by have := HG.out; omega
      obtain ⟨rfl, hrun2⟩ := hr2
      have HRun := hid hrun2; clear hrun2
      obtain ⟨C, ec, q1, q2, q3, q4, c0, c1, c2, c3, c4, c5, c6, c7, c8, c9, fz, ho⟩ := Hrep.out.cells
      simp only [] at q1 c1 c2 c3
      have hb1 : (s.r1 : Int) ≤ (s.t.length : Int) := by omega
      have hb2 : (s.t.length : Int) ≤ (C : Int) := by omega
      clear ho c0 c4 c5 c6 c7 c8 c9 q3 q4 fz
      go_wp2_with fail
      go_quiet (fail)
      go_wp2
      all_goals
        go_ret
        rw [HRun.out, show s.r1 + (s.t.length - s.r1) = s.t.length by omega]
        have hR : ∀ m, Rep (wr.drewN m) B D T E sk { s with r1 := s.t.length } := fun m => Hrep.out.drewN m
        have hB := fun m => slice_text (hR m) C s.r1 s.t.length q1 q2 (by omega) (Nat.le_refl _)
      · have hCr : C = s.r1 := by assumption
        refine ⟨E, _, rfl, ?_, hR _, Hstp.out.drewN _⟩
        have := hB (n1 + nq)
        simp only [sliced, hCr, if_true, Nat.sub_self] at this
        exact this
      · have hCr : ¬ C = s.r1 := by assumption
        exact ⟨E, _, rfl, bytes_at (hB (n1 + nq)) hCr, hR _, Hstp.out.drewN _⟩
end Go.Proofs.YtejlokdcocacaaaGreatDoor
