/- The decoder's small methods: ensure, at, advance, take, takeEOL, reset. -/
import Derived.Test.YtejlokdcocacaaaGreatDoorKQuote
import Derived.Deep.LoopGhost
namespace Go.Proofs.YtejlokdcocacaaaGreatDoor
open Go.RowKit

set_option maxHeartbeats 400000 in
theorem ensure1_any {w : World} {B D T E : Nat} {sk : Bool} {s : DSt} (h : Rep w B D T E sk s) (n : Int) :
    Calls Tryz.prog 99 #[.pointer (some ⟨D, 0, none⟩), .int .i64 n] w fun e w' => e = .returned (.bool false) ∧ w' = w := by
  obtain ⟨C, ec, q1, q2, q3, q4, c0, c1, c2, c3, c4, c5, c6, c7, c8, c9, fz, ho⟩ := h.cells
  clear ho c0 c2 c5 c6 c7 c8 c9 fz h
  go_enter Tryz.func99, Tryz.ntmps99
  go_wp2
  refine wp_loop_rounds 1 ?_; rw [rounds_succ]
  go_wp2
  go_ret
  exact ⟨rfl, rfl⟩

/-- Whether so many bytes are left. -/
def DSt.has (s : DSt) (n : Nat) : Bool := decide (s.r1 + n ≤ s.t.length)

set_option maxHeartbeats 400000 in
theorem ensure_any {w : World} {B D T E : Nat} {sk : Bool} {s : DSt} (h : Rep w B D T E sk s) (n : Nat) (h1 : n ≤ 10000) (m : Int) (hm : m = n) :
    Calls Tryz.prog 52 #[.pointer (some ⟨D, 0, none⟩), .int .i64 m] w fun e w' => e = .returned (.bool (s.has n)) ∧ ∃ m, w' = w.drewN m := by
  subst hm
  obtain ⟨C, ec, q1, q2, q3, q4, c0, c1, c2, c3, c4, c5, c6, c7, c8, c9, fz, ho⟩ := h.cells
  have b1 := h.le1
  have b2 := h.small
  clear ho c0 c2 c4 c5 c6 c7 c8 c9 fz
  by_cases hc : (s.r1 : Int) + (n : Int) ≤ (s.t.length : Int)
  · clear h
    go_enter Tryz.func52, Tryz.ntmps52
    go_wp2
    go_quiet (fail)
    go_wp2
    go_ret
    exact ⟨by rw [show s.has n = true by simp [DSt.has]; omega]; rfl, nq, rfl⟩
  · have h' := fun m => (h.drewN m)
    clear h
    go_enter Tryz.func52, Tryz.ntmps52
    go_wp2
    go_quiet (fail)
    go_wp2_with (go_at_call 99; refine (ensure1_any (h' nq) _).mono ?_; rintro e w' ⟨rfl, rfl⟩)
    go_ret
    exact ⟨by rw [show s.has n = false by simp [DSt.has]; omega]; rfl, nq, rfl⟩

/-- The byte so many places on, 0 behind the end. -/
def DSt.at (s : DSt) (n : Nat) : UInt8 := s.t.getD (s.r1 + n) 0

set_option maxHeartbeats 400000 in
theorem at_any {w : World} {B D T E : Nat} {sk : Bool} {s : DSt} (h : Rep w B D T E sk s) (n : Nat) (h1 : n ≤ 10000) (m : Int) (hm : m = n) :
    Calls Tryz.prog 63 #[.pointer (some ⟨D, 0, none⟩), .int .i64 m] w fun e w' => e = .returned (.int .u8 ((s.at n).toNat : Int)) ∧ ∃ m, w' = w.drewN m := by
  subst hm
  obtain ⟨C, ec, q1, q2, q3, q4, c0, c1, c2, c3, c4, c5, c6, c7, c8, c9, fz, ho⟩ := h.cells
  have b1 := h.le1
  have b2 := h.small
  have hb := h.byte
  clear ho c0 c2 c5 c6 c7 c8 c9 fz h c4
  by_cases hc : (s.r1 : Int) + (n : Int) < (s.t.length : Int)
  · have hn := hb (s.r1 + n) (by omega)
    have e : s.at n = s.t[s.r1 + n]'(by omega) := by simp [DSt.at, List.getD, show s.r1 + n < s.t.length by omega]
    rw [← e] at hn
    clear hb e
    have hi : ((s.r1 : Int) + (n : Int)).toNat = s.r1 + n := by omega
    generalize s.at n = x at *
    have hi0 : (0 : Int) ≤ (s.r1 : Int) + (n : Int) := by omega
    go_enter Tryz.func63, Tryz.ntmps63
    go_wp2
    go_quiet (fail)
    go_wp2
    go_quiet (fail)
    go_wp2
    go_ret
    exact ⟨rfl, _, World.drewN_drewN _ _ _⟩
  · clear hb
    go_enter Tryz.func63, Tryz.ntmps63
    go_wp2
    go_quiet (fail)
    go_wp2
    go_ret
    exact ⟨by simp [DSt.at, List.getD, show ¬ s.r1 + n < s.t.length by omega], nq, rfl⟩

set_option maxHeartbeats 400000 in
theorem advance_any {w : World} {B D T E : Nat} {sk : Bool} {s : DSt} (h : Rep w B D T E sk s) (n : Nat) (hn : s.r1 + n ≤ s.t.length) (m : Int) (hm : m = n) :
    Calls Tryz.prog 67 #[.pointer (some ⟨D, 0, none⟩), .int .i64 m] w (DP B D T E sk w { s with r1 := s.r1 + n } fun _ v => v = .tuple #[]) := by
  subst hm
  obtain ⟨C, ec, q1, q2, q3, q4, c0, c1, c2, c3, c4, c5, c6, c7, c8, c9, fz, ho⟩ := h.cells
  have b2 := h.small
  have H := hid h; clear h
  clear ho c0 c1 c2 c4 c5 c6 c7 c8 c9
  go_enter Tryz.func67, Tryz.ntmps67
  go_wp2
  go_end0
  refine ⟨E, _, rfl, rfl, ?_, (Stp.refl _ _ _).setD _ _⟩
  have := H.out.setR1 (s.r1 + n) (by have := H.out.le0; omega) hn
  simpa using this

/-- How many bytes of a set stand next. -/
def DSt.run (s : DSt) (f : Nat → Bool) : Nat := (s.rest.takeWhile fun c => f c.toNat).length

theorem DSt.rest_len (s : DSt) : s.rest.length = s.t.length - s.r1 := by simp [DSt.rest]
theorem DSt.run_le (s : DSt) (f : Nat → Bool) : s.run f ≤ s.t.length - s.r1 := by
  have := (List.takeWhile_sublist (l := s.rest) (fun c : UInt8 => f c.toNat)).length_le
  rw [DSt.rest_len] at this
  exact this

/-- A part of the decoder's text, as a slice. -/
theorem slice_text {w : World} {B D T E : Nat} {sk : Bool} {s : DSt} (h : Rep w B D T E sk s) (C lo hi : Nat) (hC : s.t.length ≤ C) (hm : C ≤ maxLen) (h1 : lo ≤ hi) (h2 : hi ≤ s.t.length) :
    BytesIs w (sliced (some ⟨T, 0, none⟩) lo hi C 1) ((s.t.take hi).drop lo) := by
  have hl : ((s.t.take hi).drop lo).length = hi - lo := by simp; omega
  have hT := h.lt.2.1
  by_cases hc : C = lo
  · refine ⟨T, 0, C - lo, by rw [hl]; simp [sliced, hc], by omega, by omega, hT, fun i hi' => ?_⟩
    exfalso; rw [hl] at hi'; omega
  · refine ⟨T, lo, C - lo, ?_, by omega, by omega, hT, fun i hi' => ?_⟩
    · rw [hl]
      simp only [sliced, if_neg hc, Option.map_some, Nat.mul_one]
      congr 2
      unfold Addr.add
      split
      · simp_all
      · simp
    · rw [hl] at hi'
      rw [h.byte (lo + i) (by omega)]
      simp

theorem take_stop {l : List UInt8} {f : UInt8 → Bool} {k : Nat} (hk : k < l.length) (ha : ∀ j (h : j < k), f (l[j]'(by omega)) = true) (hf : f l[k] = false) : (l.takeWhile f).length = k := by
  induction l generalizing k with
  | nil => simp at hk
  | cons c l ih =>
    cases k with
    | zero => simp at hf; simp [hf]
    | succ k =>
      have h0 : f c = true := ha 0 (by omega)
      simp only [List.takeWhile_cons, h0, if_true, List.length_cons]
      rw [ih (k := k) (by simpa using hk) (fun j hj => by have := ha (j + 1) (by omega); simpa using this) (by simpa using hf)]

theorem take_all {l : List UInt8} {f : UInt8 → Bool} (ha : ∀ j (h : j < l.length), f l[j] = true) : (l.takeWhile f).length = l.length := by
  induction l with
  | nil => rfl
  | cons c l ih =>
    have h0 : f c = true := ha 0 (by simp)
    simp only [List.takeWhile_cons, h0, if_true, List.length_cons]
    rw [ih (fun j hj => by have := ha (j + 1) (by simpa using hj); simpa using this)]

theorem run_stop {s : DSt} {f : Nat → Bool} {k : Nat} (hk : s.r1 + k < s.t.length) (hall : ∀ j (_ : j < k), ∃ h2 : s.r1 + j < s.t.length, f (s.t[s.r1 + j]'h2).toNat = true) (hf : f (s.t[s.r1 + k]'hk).toNat = false) : s.run f = k := by
  unfold DSt.run
  refine take_stop (k := k) (by rw [DSt.rest_len]; omega) (fun j hj => ?_) ?_
  · obtain ⟨h2, h3⟩ := hall j hj
    simpa [DSt.rest] using h3
  · simpa [DSt.rest] using hf

theorem run_end {s : DSt} {f : Nat → Bool} {n : Nat} (hn : n = s.t.length - s.r1) (hall : ∀ j (_ : j < n), ∃ h2 : s.r1 + j < s.t.length, f (s.t[s.r1 + j]'h2).toNat = true) : s.run f = n := by
  unfold DSt.run
  rw [take_all (fun j hj => ?_), DSt.rest_len, hn]
  obtain ⟨h2, h3⟩ := hall j (by rw [DSt.rest_len] at hj; omega)
  simpa [DSt.rest] using h3

theorem bytes_at {w : World} {T lo hi C : Nat} {l : List UInt8} (h : BytesIs w (sliced (some ⟨T, 0, none⟩) lo hi C 1) l) (hc : ¬ C = lo) : BytesIs w (.slice (some ⟨T, lo, none⟩) (hi - lo) (C - lo)) l := by
  have e : sliced (some ⟨T, 0, none⟩) lo hi C 1 = .slice (some ⟨T, lo, none⟩) (hi - lo) (C - lo) := by
    simp only [sliced, if_neg hc, Option.map_some, Nat.mul_one]
    congr 2
    unfold Addr.add
    split
    · simp_all
    · simp
  rw [← e]; exact h

set_option maxHeartbeats 1000000 in
theorem take_any {w : World} {B D T E : Nat} {sk : Bool} {s : DSt} {S : Nat} {f : Nat → Bool} (h : Rep w B D T E sk s) (hS : SetIs w S f) (hSD : S ≠ D) :
    Calls Tryz.prog 64 #[.pointer (some ⟨D, 0, none⟩), .pointer (some ⟨S, 0, none⟩)] w (DP B D T E sk w { s with r1 := s.r1 + s.run f } fun w' v => BytesIs w' v ((s.t.take (s.r1 + s.run f)).drop s.r1)) := by
  obtain ⟨C, ec, q1, q2, q3, q4, c0, c1, c2, c3, c4, c5, c6, c7, c8, c9, fz, ho⟩ := h.cells
  have b1 := h.le0
  have b2 := h.small
  have b3 := h.le1
  have hrun := s.run_le f
  have H := hid h; clear h
  have HS := hid hS; clear hS
  go_enter Tryz.func64, Tryz.ntmps64
  go_wp2
  go_step3
  go_wp2
  go_quiet (fail)
  go_wp2
  go_step3
  go_wp2
  clear ho c0 c1 c2 c3 c4 c5 c6 c7 c8 c9 fz
  go_loopg [] 2 (fun g wr => ∃ r : Nat, (g = 2 ∧ r = s.r1 ∨ g = 1 ∧ r = s.t.length ∧ s.run f = s.t.length - s.r1) ∧ Rep wr B D T E sk { s with r1 := r } ∧ Stp D E w E wr)
  case atStart => exact ⟨s.r1, .inl ⟨rfl, rfl⟩, H.out.drewN _, (Stp.refl _ _ _).drewN _⟩
  case round =>
    obtain ⟨r, hr, hrep, hstp⟩ := hrel
    have HG := hid hr; clear hr
    have Hrep := hid hrep; clear hrep
    have Hstp := hid hstp; clear hstp
    go_wp2_with fail
    refine (ensure_any Hrep.out 1 (by omega) 1 rfl).mono ?_; rintro e w1 ⟨rfl, n1, rfl⟩
    have he : (s.r0 : Int) + ((s.r1 : Int) - (s.r0 : Int)) = (s.r1 : Int) := by omega
    have hb0 : (0 : Int) ≤ (s.r1 : Int) := by omega
    by_cases hlt : r < s.t.length
    · have hb : (DSt.has { s with r1 := r } 1) = true := by simp [DSt.has]; omega
      rw [hb]
      clear hb
      obtain ⟨rfl, rfl⟩ : r = s.r1 ∧ gk = 2 := by have := HG.out; omega
      have Hr : Hid (Rep wr B D T E sk s) := Hrep
      clear Hrep HG
      obtain ⟨C, ec, q1, q2, q3, q4, c0, c1, c2, c3, c4, c5, c6, c7, c8, c9, fz, ho⟩ := Hr.out.cells
      have hne : ¬ C = s.r1 := by omega
      have hrl : (s.r1 : Int) ≤ (s.t.length : Int) := by omega
      clear ho c0 c4 c5 c6 c7 c8 c9 q3 q4
      go_wp2_with fail
      go_quiet (fail)
      go_wp2
      have hbyte := Hr.out.byte
      have HB := hid hbyte; clear hbyte
      have hD3 := fz 3
      obtain ⟨n, hn⟩ : ∃ n, n = s.t.length - s.r1 := ⟨_, rfl⟩
      rw [← hn]
      have HN := hid hn
      have hn1 : n + s.r1 ≤ s.t.length := by omega
      have hn2 : s.t.length ≤ n + s.r1 := by omega
      clear hn
      clear fz hne hrl
      go_loopg [32] n (fun g i wx => ∃ k : Nat, k + g = n ∧ i = .int .i64 k ∧ (∀ j (_ : j < k), ∃ h2 : s.r1 + j < s.t.length, f (s.t[s.r1 + j]'h2).toNat = true) ∧ ∃ m, wx = wr.drewN m)
      case atStart => exact ⟨0, by omega, rfl, fun j hj => by omega, _, rfl⟩
      case round =>
        obtain ⟨k, hkg, rfl, hall, m, rfl⟩ := hrel
        have HA := hid hall; clear hall
        cases gk with
        | zero =>
          obtain rfl : k = n := by omega
          go_wp2
          go_roundg 1
          case measure => omega
          case rel =>
            have hrun := run_end HN.out HA.out
            have e : s.t.length = s.r1 + k := by omega
            refine ⟨s.t.length, .inr ⟨rfl, rfl, by rw [hrun]; exact HN.out⟩, ?_, ?_⟩
            · have := (Hr.out.setR1 s.t.length (by omega) (Nat.le_refl _)).drewN m
              rw [show (s.t.length : Int) = (s.r1 : Int) + (k : Int) by omega] at this
              exact this
            · exact (Hstp.out.setD _ _).drewN _
        | succ g2 =>
          have hkn : (k : Int) < (n : Int) := by omega
          have hcell := HB.out (s.r1 + k) (by omega)
          have hcS := fun c => get_any (w := wr.drewN m) (S := S) (f := f) (by
            have : SetIs wr S f := by
              unfold SetIs
              rw [Hstp.out.block S HS.out.lt hSD]; exact HS.out
            exact this) c
          generalize hc : s.t[s.r1 + k]'(by omega) = c at *
          have HC := hid hc; clear hc
          cases hfc : f c.toNat
          · have HF := hid hfc
            go_wp2_with (go_at_call 62; refine (hcS c).mono ?_; rintro e w' ⟨rfl, rfl⟩)
            have hb1 : (s.r1 : Int) ≤ (s.r1 : Int) + (k : Int) := by omega
            have hb2 : (s.r1 : Int) + (k : Int) ≤ (C : Int) := by omega
            go_quiet (fail)
            go_wp2
            rw [Exit.noGoto_ret]
            go_ret
            have hrun := run_stop (by omega) HA.out (by rw [HC.out]; exact HF.out)
            rw [hrun]
            have hR := ((Hr.out.drewN m).setR1 (s.r1 + k) (by omega) (by omega)).drewN nq
            rw [show ((s.r1 + k : Nat) : Int) = (s.r1 : Int) + (k : Int) by omega] at hR
            exact ⟨E, _, rfl, bytes_at (slice_text hR C s.r1 (s.r1 + k) q1 q2 (by omega) (by show s.r1 + k ≤ s.t.length; omega)) (by omega), hR, ((Hstp.out.drewN _).setD _ _).drewN _⟩
          · go_wp2_with (go_at_call 62; refine (hcS c).mono ?_; rintro e w' ⟨rfl, rfl⟩)
            go_roundg g2
            case measure => omega
            case rel =>
              refine ⟨k + 1, by omega, by go_num, fun j hj => ?_, _, rfl⟩
              by_cases hjk : j = k
              · subst hjk
                exact ⟨by omega, by rw [HC.out]; exact hfc⟩
              · exact HA.out j (by omega)
    · have hb : (DSt.has { s with r1 := r } 1) = false := by simp [DSt.has]; omega
      rw [hb]
      clear hb
      have hr2 : r = s.t.length ∧ s.run f = s.t.length - s.r1 := by have := HG.out; omega
      obtain ⟨rfl, hrun2⟩ := hr2
      have HRun := hid hrun2; clear hrun2
      obtain ⟨C, ec, q1, q2, q3, q4, c0, c1, c2, c3, c4, c5, c6, c7, c8, c9, fz, ho⟩ := Hrep.out.cells
      simp only [] at q1 c1 c2 c3
      have hb1 : (s.r1 : Int) ≤ (s.t.length : Int) := by omega
      have hb2 : (s.t.length : Int) ≤ (C : Int) := by omega
      clear ho c0 c4 c5 c6 c7 c8 c9 q3 q4 fz
      go_wp2_with fail
      go_quiet (fail)
      go_wp2
      all_goals
        go_ret
        rw [HRun.out, show s.r1 + (s.t.length - s.r1) = s.t.length by omega]
        have hR : ∀ m, Rep (wr.drewN m) B D T E sk { s with r1 := s.t.length } := fun m => Hrep.out.drewN m
        have hB := fun m => slice_text (hR m) C s.r1 s.t.length q1 q2 (by omega) (Nat.le_refl _)
      · have hCr : C = s.r1 := by assumption
        refine ⟨E, _, rfl, ?_, hR _, Hstp.out.drewN _⟩
        have := hB (n1 + nq)
        simp only [sliced, hCr, if_true, Nat.sub_self] at this
        exact this
      · have hCr : ¬ C = s.r1 := by assumption
        exact ⟨E, _, rfl, bytes_at (hB (n1 + nq)) hCr, hR _, Hstp.out.drewN _⟩
end Go.Proofs.YtejlokdcocacaaaGreatDoor


namespace Go.Proofs.YtejlokdcocacaaaGreatDoor
open Go.RowKit

/-- The line's number cannot run away. -/
def DSt.Ok (s : DSt) : Prop := 0 ≤ s.line ∧ s.line + ((s.t.length - s.r1 : Nat) : Int) ≤ 5000

/-- An end of a line, taken. -/
def DSt.eol (s : DSt) : Bool × DSt :=
  if s.has 1 = false then (true, s)
  else if s.at 0 = 10 then (true, { s with r1 := s.r1 + 1, line := s.line + 1 })
  else if s.at 0 = 13 then
    if s.has 2 = false then (true, { s with r1 := s.r1 + 1 })
    else if s.at 1 = 10 then (true, { s with r1 := s.r1 + 2, line := s.line + 1 })
    else (false, s)
  else (false, s)

theorem u8_eq (c : UInt8) (n : Nat) (h : n < 256) : (((c.toNat : Int) == (n : Int)) = true) ↔ c = UInt8.ofNat n := by
  rw [beq_iff_eq]
  constructor
  · intro e
    have : c.toNat = n := by omega
    rw [← this]; simp
  · intro e
    rw [e]
    simp
    omega

set_option maxHeartbeats 1000000 in
theorem takeEOL_any {w : World} {B D T E : Nat} {sk : Bool} {s : DSt} (h : Rep w B D T E sk s) (hk : s.Ok) :
    Calls Tryz.prog 80 #[.pointer (some ⟨D, 0, none⟩)] w (DP B D T E sk w s.eol.2 fun _ v => v = .bool s.eol.1) := by
  have b1 := h.le1
  have b2 := h.small
  have H := hid h; clear h
  have hl1 : (0 : Int) ≤ s.line := hk.1
  have hl2 : s.line ≤ 5000 := by have := hk.2; omega
  clear hk
  go_enter Tryz.func80, Tryz.ntmps80
  go_wp2_with fail
  refine (ensure_any H.out 1 (by omega) 1 rfl).mono ?_; rintro e w1 ⟨rfl, n1, rfl⟩
  cases hb : s.has 1
  · go_wp2
    go_ret
    rw [show s.eol = (true, s) by simp [DSt.eol, hb]]
    exact ⟨E, _, rfl, rfl, H.out.drewN _, (Stp.refl _ _ _).drewN _⟩
  have HB := hid hb
  have hlt : s.r1 + 1 ≤ s.t.length := by simpa [DSt.has] using hb
  clear hb
  go_wp2_with fail
  refine (at_any (H.out.drewN n1) 0 (by omega) 0 rfl).mono ?_; rintro e w1 ⟨rfl, n2, rfl⟩
  by_cases h10 : s.at 0 = 10
  · have e1 : ((s.at 0).toNat : Int) = 10 := by rw [h10]; rfl
    rw [e1]
    have H10 := hid h10; clear h10 e1
    go_wp2_with fail
    refine (advance_any (H.out.drewN _) 1 hlt 1 rfl).mono ?_; rintro e w2 ⟨E2, v, rfl, rfl, h2, st2⟩
    obtain ⟨C, ec, q1, q2, q3, q4, c0, c1, c2, c3, c4, c5, c6, c7, c8, c9, fz, ho⟩ := h2.cells
    have H2 := hid h2
    have HS := hid st2
    clear ho c0 c1 c2 c3 c4 c5 c6 c7 c9 h2 st2
    simp only [] at c8
    go_wp2
    go_ret
    rw [show s.eol = (true, { s with r1 := s.r1 + 1, line := s.line + 1 }) by simp [DSt.eol, HB.out, H10.out]]
    exact ⟨E2, _, rfl, rfl, H2.out.setLine _ (by omega) (by omega), ((((Stp.refl D E w).drewN _).trans HS.out).setD _ _)⟩
  have e10 : (((s.at 0).toNat : Int) == 10) = false := by
    rw [← Bool.not_eq_true]; exact fun e => h10 ((u8_eq _ 10 (by omega)).1 e)
  by_cases h13 : s.at 0 = 13
  · have e1 : ((s.at 0).toNat : Int) = 13 := by rw [h13]; rfl
    rw [e1]
    have H13 := hid h13; clear h10 e10 e1 h13
    go_wp2_with fail
    refine (ensure_any (H.out.drewN _) 2 (by omega) 2 rfl).mono ?_; rintro e w1 ⟨rfl, n3, rfl⟩
    cases hb2 : s.has 2
    · have HB2 := hid hb2; clear hb2
      go_wp2_with fail
      refine (advance_any (H.out.drewN _) 1 hlt 1 rfl).mono ?_; rintro e w2 ⟨E2, v, rfl, rfl, h2, st2⟩
      have H2 := hid h2
      have HS := hid st2
      clear h2 st2
      go_wp2
      go_ret
      rw [show s.eol = (true, { s with r1 := s.r1 + 1 }) by simp [DSt.eol, HB.out, H13.out, HB2.out]]
      exact ⟨E2, _, rfl, rfl, H2.out, ((Stp.refl D E w).drewN _).trans HS.out⟩
    · have HB2 := hid hb2
      have hlt2 : s.r1 + 2 ≤ s.t.length := by simpa [DSt.has] using hb2
      clear hb2
      go_wp2_with fail
      refine (at_any (H.out.drewN _) 1 (by omega) 1 rfl).mono ?_; rintro e w1 ⟨rfl, n4, rfl⟩
      by_cases h10' : s.at 1 = 10
      · have e1 : ((s.at 1).toNat : Int) = 10 := by rw [h10']; rfl
        rw [e1]
        have H10' := hid h10'; clear h10' e1
        go_wp2_with fail
        refine (advance_any (H.out.drewN _) 2 hlt2 2 rfl).mono ?_; rintro e w2 ⟨E2, v, rfl, rfl, h2, st2⟩
        obtain ⟨C, ec, q1, q2, q3, q4, c0, c1, c2, c3, c4, c5, c6, c7, c8, c9, fz, ho⟩ := h2.cells
        have H2 := hid h2
        have HS := hid st2
        clear ho c0 c1 c2 c3 c4 c5 c6 c7 c9 h2 st2
        simp only [] at c8
        go_wp2
        go_ret
        rw [show s.eol = (true, { s with r1 := s.r1 + 2, line := s.line + 1 }) by simp [DSt.eol, HB.out, H13.out, HB2.out, H10'.out]]
        exact ⟨E2, _, rfl, rfl, H2.out.setLine _ (by omega) (by omega), ((((Stp.refl D E w).drewN _).trans HS.out).setD _ _)⟩
      · have e10' : (((s.at 1).toNat : Int) == 10) = false := by
          rw [← Bool.not_eq_true]; exact fun e => h10' ((u8_eq _ 10 (by omega)).1 e)
        have H10' := hid h10'; clear h10'
        go_wp2
        go_ret
        rw [show s.eol = (false, s) by simp [DSt.eol, HB.out, H13.out, HB2.out, H10'.out]]
        exact ⟨E, _, rfl, rfl, H.out.drewN _, (Stp.refl _ _ _).drewN _⟩
  · have e13 : (((s.at 0).toNat : Int) == 13) = false := by
      rw [← Bool.not_eq_true]; exact fun e => h13 ((u8_eq _ 13 (by omega)).1 e)
    have H10 := hid h10
    have H13 := hid h13; clear h10 h13
    go_wp2
    go_ret
    rw [show s.eol = (false, s) by simp [DSt.eol, HB.out, H10.out, H13.out]]
    exact ⟨E, _, rfl, rfl, H.out.drewN _, (Stp.refl _ _ _).drewN _⟩

/-- All that is gone by is forgotten. -/
def DSt.reset (s : DSt) : DSt := if s.t.length = s.r1 then { s with t := [], r0 := 0, r1 := 0, esc := [] } else { s with r0 := s.r1, esc := [] }

set_option maxHeartbeats 1000000 in
theorem reset_any {w : World} {B D T E : Nat} {sk : Bool} {s : DSt} (h : Rep w B D T E sk s) :
    Calls Tryz.prog 53 #[.pointer (some ⟨D, 0, none⟩)] w (DP B D T E sk w s.reset fun _ v => v = .tuple #[]) := by
  obtain ⟨C, ec, hd, q1, q2, q3, q4, c0, c1, c2, c3, c4, c5, c6, c7, c8, c9, fz, ho⟩ := h.cellsD
  have b1 := h.le1
  have b2 := h.small
  have H := hid h; clear h
  have HD := hid hd; clear hd
  clear ho c0 c5 c6 c8 c9
  by_cases he : s.t.length = s.r1
  · have hz : (((s.t.length : Int) - (s.r1 : Int)) == 0) = true := by rw [beq_iff_eq]; omega
    have HE := hid he; clear he
    go_enter Tryz.func53, Tryz.ntmps53
    go_wp2
    go_quiet (fail)
    go_wp2
    go_end0
    have hn := H.out.drewN nq
    have hd : IsDec (w.drewN nq) D T s.t.length C s.r0 s.r1 s.sec sk (.slice (some ⟨E, 0, none⟩) s.esc.length ec) s.line := HD.out
    rw [show s.reset = { s with t := [], r0 := 0, r1 := 0, esc := [] } by simp only [DSt.reset, if_pos HE.out]]
    refine ⟨E, _, rfl, rfl, hn.remake hd (fun k hk => ?_) ?_ 0 (by simp) 0 (by simp) (Nat.le_refl _) hn.sec5 (Nat.le_refl _) hn.line0 hn.line1, ((((((Stp.refl D E w).drewN nq).setD _ _).setD _ _).setD _ _).setD _ _)⟩
    · rw [heap_setCell_other _ _ k _ hk, heap_setCell_other _ _ k _ hk, heap_setCell_other _ _ k _ hk, heap_setCell_other _ _ k _ hk]
    · have h1 := heap_setCell_same _ D 1 _ _ (.slice (some ⟨T, 0, none⟩) 0 C) hd
      have h2 := heap_setCell_same _ D 3 _ _ (.int .i64 0) h1
      have h3 := heap_setCell_same _ D 2 _ _ (.int .i64 0) h2
      exact heap_setCell_same _ D 7 _ _ (.slice (some ⟨E, 0, none⟩) 0 ec) h3
  · have hz : (((s.t.length : Int) - (s.r1 : Int)) == 0) = false := by rw [beq_eq_false_iff_ne]; omega
    have HE := hid he; clear he
    go_enter Tryz.func53, Tryz.ntmps53
    go_wp2
    go_quiet (fail)
    go_wp2
    go_end0
    have hn := H.out.drewN nq
    have hd : IsDec (w.drewN nq) D T s.t.length C s.r0 s.r1 s.sec sk (.slice (some ⟨E, 0, none⟩) s.esc.length ec) s.line := HD.out
    rw [show s.reset = { s with r0 := s.r1, esc := [] } by simp only [DSt.reset, if_neg HE.out]]
    refine ⟨E, _, rfl, rfl, hn.remake hd (fun k hk => ?_) ?_ s.t.length (by simp) 0 (by simp) hn.le1 hn.sec5 (by simp) hn.line0 hn.line1, ((((Stp.refl D E w).drewN nq).setD _ _).setD _ _)⟩
    · rw [heap_setCell_other _ _ k _ hk, heap_setCell_other _ _ k _ hk]
    · have h1 := heap_setCell_same _ D 2 _ _ (.int .i64 (s.r1 : Int)) hd
      exact heap_setCell_same _ D 7 _ _ (.slice (some ⟨E, 0, none⟩) 0 ec) h1
end Go.Proofs.YtejlokdcocacaaaGreatDoor

/- Errors: errors.New, counting a byte, the last place of one, and the decoder's syntaxErrorf. -/
namespace Go.Proofs.YtejlokdcocacaaaGreatDoor
open Go.RowKit

/-- How often a byte stands in a list. -/
def cntB (l : List UInt8) (c : UInt8) : Nat := (l.filter (· == c)).length

theorem cntB_le (l : List UInt8) (c : UInt8) : cntB l c ≤ l.length := List.length_filter_le _ _

theorem cntB_snoc (l : List UInt8) (k : Nat) (hk : k < l.length) (c : UInt8) : cntB (l.take (k + 1)) c = cntB (l.take k) c + if l[k] = c then 1 else 0 := by
  unfold cntB
  rw [List.take_succ_eq_append_getElem hk, List.filter_append, List.length_append]
  by_cases h : l[k] = c <;> simp [h]

theorem BytesIs.drewN {w : World} {v : Value} {l : List UInt8} (h : BytesIs w v l) (n : Nat) : BytesIs (w.drewN n) v l := h

theorem BytesIs.keep {w w' : World} {v : Value} {l : List UInt8} (h : BytesIs w v l) (hs : w.heap.size ≤ w'.heap.size) (hk : ∀ b, v.ownBlock = some b → w'.heap[b]? = w.heap[b]?) : BytesIs w' v l := by
  obtain ⟨b, o, c, rfl, h1, h2, h3, h4⟩ := h
  exact ⟨b, o, c, rfl, h1, h2, by omega, fun i hi => (World.cell?_of_block (w := w) (a := ⟨b, o + i, none⟩) (hk b rfl)).trans (h4 i hi)⟩

theorem BytesIs.below {w w' : World} {v : Value} {l : List UInt8} (h : BytesIs w v l) (k : Below w.heap.size w w') : BytesIs w' v l :=
  h.keep k.size fun b hb => by
    obtain ⟨b', o, c, rfl, _, _, h3, _⟩ := h
    simp [Value.ownBlock] at hb
    subst hb
    exact k.block _ h3

set_option maxHeartbeats 400000 in
theorem errorsNew_any (s : ByteArray) (w : World) :
    Calls Tryz.prog 58 #[.string s] w fun e w' => e = .returned (.iface 167 (.pointer (some ⟨w.heap.size, 0, none⟩))) ∧ w' = w.alloc (.cells #[.string s] 169) := by
  go_enter Tryz.func58, Tryz.ntmps58
  go_wp2
  go_ret
  exact ⟨rfl, rfl⟩

set_option maxHeartbeats 400000 in
theorem count_any {w : World} {v : Value} {l : List UInt8} (h : BytesIs w v l) (hl : l.length ≤ 1000000) (c : UInt8) (cv : Int) (hc : cv = (c.toNat : Int)) :
    Calls Tryz.prog 100 #[v, .int .u8 cv] w fun e w' => e = .returned (.int .i64 (cntB l c : Int)) ∧ w' = w := by
  subst hc
  obtain ⟨b, o, cp, rfl, h1, h2, h3, h4⟩ := h
  clear h3
  have H4 := hid h4; clear h4
  obtain ⟨n, hn⟩ : ∃ n, n = l.length := ⟨_, rfl⟩
  rw [← hn] at h1 ⊢
  have HN := hid hn
  have hn1 : n ≤ 1000000 := by omega
  clear hn
  go_enter Tryz.func100, Tryz.ntmps100
  go_wp2
  go_loop [5, 10] (fun t i => ∃ k : Nat, k ≤ n ∧ i = .int .i64 k ∧ t = .int .i64 (cntB (l.take k) c : Int)) (fun _ i => n - (intOf i).toNat)
  case atStart => exact ⟨0, Nat.zero_le _, rfl, rfl⟩
  case round =>
    obtain ⟨k, hk, rfl, rfl⟩ := hrel
    have hcl := cntB_le (l.take k) c
    have hc2 : cntB (l.take k) c ≤ k := Nat.le_trans hcl (by simp; omega)
    clear hcl
    by_cases hlt : k < n
    · have hkl : k < l.length := by rw [← HN.out]; exact hlt
      have hcell := H4.out k hkl
      have hs := cntB_snoc l k hkl c
      have HS := hid hs; clear hs
      by_cases he : l[k] = c
      · rw [he] at hcell
        have HE := hid he; clear he
        have e0 : (((c.toNat : Int)) == (c.toNat : Int)) = true := by simp
        go_wp2
        go_round
        case rel => exact ⟨k + 1, by omega, by go_num, by rw [HS.out, if_pos HE.out]; go_num⟩
        case measure => simp [intOf]; omega
      · have hne : (((l[k]).toNat : Int) == (c.toNat : Int)) = false := by
          rw [beq_eq_false_iff_ne]
          intro e
          exact he (UInt8.toNat_inj.1 (by omega))
        generalize (l[k]).toNat = x at *
        have HE := hid he; clear he
        go_wp2
        go_round
        case rel => exact ⟨k + 1, by omega, by go_num, by rw [HS.out, if_neg HE.out]; rfl⟩
        case measure => simp [intOf]; omega
    · go_wp2
      go_ret
      obtain rfl : k = n := by omega
      have := HN.out
      exact ⟨by rw [this, List.take_length]; rfl, rfl⟩

/-- The last place of a byte, or -1. -/
def lastB (l : List UInt8) (c : UInt8) : Nat → Int
  | 0 => -1
  | k + 1 => if l.getD k 0 = c then (k : Int) else lastB l c k

theorem lastB_le (l : List UInt8) (c : UInt8) : ∀ k, -1 ≤ lastB l c k ∧ lastB l c k < k
  | 0 => by simp [lastB]
  | k + 1 => by
    have := lastB_le l c k
    unfold lastB
    split <;> omega

set_option maxHeartbeats 400000 in
theorem lastIndex_any {w : World} {v : Value} {l : List UInt8} (h : BytesIs w v l) (hl : l.length ≤ 1000000) (c : UInt8) (cv : Int) (hc : cv = (c.toNat : Int)) :
    Calls Tryz.prog 107 #[v, .int .u8 cv] w fun e w' => e = .returned (.int .i64 (lastB l c l.length)) ∧ w' = w := by
  subst hc
  obtain ⟨b, o, cp, rfl, h1, h2, h3, h4⟩ := h
  clear h3
  have H4 := hid h4; clear h4
  obtain ⟨n, hn⟩ : ∃ n, n = l.length := ⟨_, rfl⟩
  rw [← hn] at h1 ⊢
  have HN := hid hn
  have hn1 : n ≤ 1000000 := by omega
  clear hn
  obtain ⟨ans, hans⟩ : ∃ ans, lastB l c n = ans := ⟨_, rfl⟩
  rw [hans]
  have HA := hid hans; clear hans
  go_enter Tryz.func107, Tryz.ntmps107
  go_wp2_with (go_at_call 143; go_in)
  go_loop [5] (fun i => ∃ k : Nat, k ≤ n ∧ i = .int .i64 ((k : Int) - 1) ∧ Hid (lastB l c k = ans)) (fun i => (intOf i + 1).toNat)
  case atStart => exact ⟨n, Nat.le_refl _, rfl, HA⟩
  case round =>
    obtain ⟨k, hk, rfl, hrest⟩ := hrel
    by_cases hlt : 0 < k
    · obtain ⟨j, rfl⟩ : ∃ j, k = j + 1 := ⟨k - 1, by omega⟩
      have hkl : j < l.length := by rw [← HN.out]; omega
      have hcell := H4.out j hkl
      have hj1 : ((j : Int) + 1 - 1) = (j : Int) := by omega
      have hg : l.getD j 0 = l[j] := by simp [List.getD, hkl]
      have HG := hid hg; clear hg
      rw [show (((j + 1 : Nat) : Int) - 1) = (j : Int) by omega]
      clear hj1
      have hjn : (j : Int) < (n : Int) := by omega
      by_cases he : l[j] = c
      · rw [he] at hcell
        have HE := hid he; clear he
        have e0 : (((c.toNat : Int)) == (c.toNat : Int)) = true := by simp
        go_wp2
        go_ret
        refine ⟨?_, rfl⟩
        have h5 := hrest.out
        unfold lastB at h5
        rw [HG.out, if_pos HE.out] at h5
        rw [← h5]; rfl
      · have hne : (((l[j]).toNat : Int) == (c.toNat : Int)) = false := by
          rw [beq_eq_false_iff_ne]
          intro e
          exact he (UInt8.toNat_inj.1 (by omega))
        have HE := hid he; clear he
        have HX := HG.out
        have HX' := hid HX; clear HX HG
        obtain ⟨x, hx⟩ : ∃ x, (l[j]).toNat = x := ⟨_, rfl⟩
        rw [hx] at hcell hne
        clear hx
        go_wp2
        go_round
        case rel =>
          refine ⟨j, by omega, by go_num, ?_⟩
          have h5 := hrest.out
          unfold lastB at h5
          rw [HX'.out, if_neg HE.out] at h5
          exact h5
        case measure => simp [intOf]
    · obtain rfl : k = 0 := by omega
      go_wp2
      go_ret
      refine ⟨?_, rfl⟩
      have h5 := hrest.out
      unfold lastB at h5
      rw [← h5]; rfl

end Go.Proofs.YtejlokdcocacaaaGreatDoor
