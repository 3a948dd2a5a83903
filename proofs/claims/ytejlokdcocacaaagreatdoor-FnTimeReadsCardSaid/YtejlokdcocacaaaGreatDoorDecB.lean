import Derived.Test.YtejlokdcocacaaaGreatDoorDecA
namespace Go.Proofs.YtejlokdcocacaaaGreatDoor
open Go.RowKit

/-- The line's number cannot run away. -/
def DSt.Ok (s : DSt) : Prop := 0 ≤ s.line ∧ s.line + ((s.t.length - s.r1 : Nat) : Int) ≤ 5000

/-- An end of a line, taken. -/
def DSt.eol (s : DSt) : Bool × DSt :=
  if s.has 1 = false then (true, s)
  else if s.at 0 = 10 then (true, { s with r1 := s.r1 + 1, line := s.line + 1 })
  else if s.at 0 = 13 then
    if s.has 2 = false then (true, { s with r1 := s.r1 + 1 })
    else if s.at 1 = 10 then (true, { s with r1 := s.r1 + 2, line := s.line + 1 })
    else (false, s)
  else (false, s)

theorem u8_eq (c : UInt8) (n : Nat) (h : n < 256) : (((c.toNat : Int) == (n : Int)) = true) ↔ c = UInt8.ofNat n := by
  rw [beq_iff_eq]
  constructor
  · intro e
    have : c.toNat = n := by omega
    rw [← this]; simp
  · intro e
    rw [e]
    simp
    omega

set_option maxHeartbeats 1000000 in
theorem takeEOL_any {w : World} {B D T E : Nat} {sk : Bool} {s : DSt} (h : Rep w B D T E sk s) (hk : s.Ok) :
    Calls Tryz.prog 80 #[.pointer (some ⟨D, 0, none⟩)] w (DP B D T E sk w s.eol.2 fun _ v => v = .bool s.eol.1) := by
  have b1 := h.le1
  have b2 := h.small
  have H := hid h; clear h
  have hl1 : (0 : Int) ≤ s.line := hk.1
  have hl2 : s.line ≤ 5000 := by have := hk.2; omega
  clear hk
  go_enter Tryz.func80, Tryz.ntmps80
  go_wp2_with fail
  refine (ensure_any H.out 1 (by omega) 1 rfl).mono ?_; rintro e w1 ⟨rfl, n1, rfl⟩
  cases hb : s.has 1
  · go_wp2
    go_ret
    rw [show s.eol = (true, s) by simp [DSt.eol, hb]]
    exact ⟨E, _, rfl, rfl, H.out.drewN _, (Stp.refl _ _ _).drewN _⟩
  have HB := hid hb
  have hlt : s.r1 + 1 ≤ s.t.length := by simpa [DSt.has] using hb
  clear hb
  go_wp2_with fail
  refine (at_any (H.out.drewN n1) 0 (by omega) 0 rfl).mono ?_; rintro e w1 ⟨rfl, n2, rfl⟩
  by_cases h10 : s.at 0 = 10
  · have e1 : ((s.at 0).toNat : Int) = 10 := by rw [h10]; rfl
    rw [e1]
    have H10 := hid h10; clear h10 e1
    go_wp2_with fail
    refine (advance_any (H.out.drewN _) 1 hlt 1 rfl).mono ?_; rintro e w2 ⟨E2, v, rfl, rfl, h2, st2⟩
    obtain ⟨C, ec, q1, q2, q3, q4, c0, c1, c2, c3, c4, c5, c6, c7, c8, c9, fz, ho⟩ := h2.cells
    have H2 := hid h2
    have HS := hid st2
    clear ho c0 c1 c2 c3 c4 c5 c6 c7 c9 h2 st2
    simp only [] at c8
    go_wp2
    go_ret
    rw [show s.eol = (true, { s with r1 := s.r1 + 1, line := s.line + 1 }) by simp [DSt.eol, HB.out, H10.out]]
    exact ⟨E2, _, rfl, rfl, H2.out.setLine _ (by omega) (by omega), ((((Stp.refl D E w).drewN _).trans HS.out).setD _ _)⟩
  have e10 : (((s.at 0).toNat : Int) == 10) = false := by
    rw [← Bool.not_eq_true]; exact fun e => h10 ((u8_eq _ 10 (by omega)).1 e)
  by_cases h13 : s.at 0 = 13
  · have e1 : ((s.at 0).toNat : Int) = 13 := by rw [h13]; rfl
    rw [e1]
    have H13 := hid h13; clear h10 e10 e1 h13
    go_wp2_with fail
    refine (ensure_any (H.out.drewN _) 2 (by omega) 2 rfl).mono ?_; rintro e w1 ⟨rfl, n3, rfl⟩
    cases hb2 : s.has 2
    · have HB2 := hid hb2; clear hb2
      go_wp2_with fail
      refine (advance_any (H.out.drewN _) 1 hlt 1 rfl).mono ?_; rintro e w2 ⟨E2, v, rfl, rfl, h2, st2⟩
      have H2 := hid h2
      have HS := hid st2
      clear h2 st2
      go_wp2
      go_ret
      rw [show s.eol = (true, { s with r1 := s.r1 + 1 }) by simp [DSt.eol, HB.out, H13.out, HB2.out]]
      exact ⟨E2, _, rfl, rfl, H2.out, ((Stp.refl D E w).drewN _).trans HS.out⟩
    · have HB2 := hid hb2
      have hlt2 : s.r1 + 2 ≤ s.t.length := by simpa [DSt.has] using hb2
      clear hb2
      go_wp2_with fail
      refine (at_any (H.out.drewN _) 1 (by omega) 1 rfl).mono ?_; rintro e w1 ⟨rfl, n4, rfl⟩
      by_cases h10' : s.at 1 = 10
      · have e1 : ((s.at 1).toNat : Int) = 10 := by rw [h10']; rfl
        rw [e1]
        have H10' := hid h10'; clear h10' e1
        go_wp2_with fail
        refine (advance_any (H.out.drewN _) 2 hlt2 2 rfl).mono ?_; rintro e w2 ⟨E2, v, rfl, rfl, h2, st2⟩
        obtain ⟨C, ec, q1, q2, q3, q4, c0, c1, c2, c3, c4, c5, c6, c7, c8, c9, fz, ho⟩ := h2.cells
        have H2 := hid h2
        have HS := hid st2
        clear ho c0 c1 c2 c3 c4 c5 c6 c7 c9 h2 st2
        simp only [] at c8
        go_wp2
        go_ret
        rw [show s.eol = (true, { s with r1 := s.r1 + 2, line := s.line + 1 }) by simp [DSt.eol, HB.out, H13.out, HB2.out, H10'.out]]
        exact ⟨E2, _, rfl, rfl, H2.out.setLine _ (by omega) (by omega), ((((Stp.refl D E w).drewN _).trans HS.out).setD _ _)⟩
      · have e10' : (((s.at 1).toNat : Int) == 10) = false := by
          rw [← Bool.not_eq_true]; exact fun e => h10' ((u8_eq _ 10 (by omega)).1 e)
        have H10' := hid h10'; clear h10'
        go_wp2
        go_ret
        rw [show s.eol = (false, s) by simp [DSt.eol, HB.out, H13.out, HB2.out, H10'.out]]
        exact ⟨E, _, rfl, rfl, H.out.drewN _, (Stp.refl _ _ _).drewN _⟩
  · have e13 : (((s.at 0).toNat : Int) == 13) = false := by
      rw [← Bool.not_eq_true]; exact fun e => h13 ((u8_eq _ 13 (by omega)).1 e)
    have H10 := hid h10
    have H13 := hid h13; clear h10 h13
    go_wp2
    go_ret
    rw [show s.eol = (false, s) by simp [DSt.eol, HB.out, H10.out, H13.out]]
    exact ⟨E, _, rfl, rfl, H.out.drewN _, (Stp.refl _ _ _).drewN _⟩

/-- All that is gone by is forgotten. -/
def DSt.reset (s : DSt) : DSt := if s.t.length = s.r1 then { s with t := [], r0 := 0, r1 := 0, esc := [] } else { s with r0 := s.r1, esc := [] }

set_option maxHeartbeats 1000000 in
theorem reset_any {w : World} {B D T E : Nat} {sk : Bool} {s : DSt} (h : Rep w B D T E sk s) :
    Calls Tryz.prog 53 #[.pointer (some ⟨D, 0, none⟩)] w (DP B D T E sk w s.reset fun _ v => v = .tuple #[]) := by
  obtain ⟨C, ec, hd, q1, q2, q3, q4, c0, c1, c2, c3, c4, c5, c6, c7, c8, c9, fz, ho⟩ := h.cellsD
  have b1 := h.le1
  have b2 := h.small
  have H := hid h; clear h
  have HD := hid hd; clear hd
  clear ho c0 c5 c6 c8 c9
  by_cases he : s.t.length = s.r1
  · have hz : (((s.t.length : Int) - (s.r1 : Int)) == 0) = true := by rw [beq_iff_eq]; omega
    have HE := hid he; clear he
    go_enter Tryz.func53, Tryz.ntmps53
    go_wp2
    go_quiet (fail)
    go_wp2
    go_end0
    have hn := H.out.drewN nq
    have hd : IsDec (w.drewN nq) D T s.t.length C s.r0 s.r1 s.sec sk (.slice (some ⟨E, 0, none⟩) s.esc.length ec) s.line := HD.out
    rw [show s.reset = { s with t := [], r0 := 0, r1 := 0, esc := [] } by simp only [DSt.reset, if_pos HE.out]]
    refine ⟨E, _, rfl, rfl, hn.remake hd (fun k hk => ?_) ?_ 0 (by simp) 0 (by simp) (Nat.le_refl _) hn.sec5 (Nat.le_refl _) hn.line0 hn.line1, ((((((Stp.refl D E w).drewN nq).setD _ _).setD _ _).setD _ _).setD _ _)⟩
    · rw [heap_setCell_other _ _ k _ hk, heap_setCell_other _ _ k _ hk, heap_setCell_other _ _ k _ hk, heap_setCell_other _ _ k _ hk]
    · have h1 := heap_setCell_same _ D 1 _ _ (.slice (some ⟨T, 0, none⟩) 0 C) hd
      have h2 := heap_setCell_same _ D 3 _ _ (.int .i64 0) h1
      have h3 := heap_setCell_same _ D 2 _ _ (.int .i64 0) h2
      exact heap_setCell_same _ D 7 _ _ (.slice (some ⟨E, 0, none⟩) 0 ec) h3
  · have hz : (((s.t.length : Int) - (s.r1 : Int)) == 0) = false := by rw [beq_eq_false_iff_ne]; omega
    have HE := hid he; clear he
    go_enter Tryz.func53, Tryz.ntmps53
    go_wp2
    go_quiet (fail)
    go_wp2
    go_end0
    have hn := H.out.drewN nq
    have hd : IsDec (w.drewN nq) D T s.t.length C s.r0 s.r1 s.sec sk (.slice (some ⟨E, 0, none⟩) s.esc.length ec) s.line := HD.out
    rw [show s.reset = { s with r0 := s.r1, esc := [] } by simp only [DSt.reset, if_neg HE.out]]
    refine ⟨E, _, rfl, rfl, hn.remake hd (fun k hk => ?_) ?_ s.t.length (by simp) 0 (by simp) hn.le1 hn.sec5 (by simp) hn.line0 hn.line1, ((((Stp.refl D E w).drewN nq).setD _ _).setD _ _)⟩
    · rw [heap_setCell_other _ _ k _ hk, heap_setCell_other _ _ k _ hk]
    · have h1 := heap_setCell_same _ D 2 _ _ (.int .i64 (s.r1 : Int)) hd
      exact heap_setCell_same _ D 7 _ _ (.slice (some ⟨E, 0, none⟩) 0 ec) h1
end Go.Proofs.YtejlokdcocacaaaGreatDoor
