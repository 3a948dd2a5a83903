/- take, with the place of what it hands back; slices that lie outside the decoder's own block. -/
import Derived.Test.YtejlokdcocacaaaGreatDoorTag
namespace Go.Proofs.YtejlokdcocacaaaGreatDoor
open Go.RowKit

set_option maxHeartbeats 1000000 in
theorem take_raw {w : World} {B D T E : Nat} {sk : Bool} {s : DSt} {S : Nat} {f : Nat → Bool} (h : Rep w B D T E sk s) (hS : SetIs w S f) (hSD : S ≠ D) :
    Calls Tryz.prog 64 #[.pointer (some ⟨D, 0, none⟩), .pointer (some ⟨S, 0, none⟩)] w (DP B D T E sk w { s with r1 := s.r1 + s.run f } fun w' v => RawIs T ((s.t.take (s.r1 + s.run f)).drop s.r1) v w') := by
  obtain ⟨C, ec, q1, q2, q3, q4, c0, c1, c2, c3, c4, c5, c6, c7, c8, c9, fz, ho⟩ := h.cells
  have b1 := h.le0
  have b2 := h.small
  have b3 := h.le1
  have hrun := s.run_le f
  have H := hid h; clear h
  have HS := hid hS; clear hS
  go_enter Tryz.func64, Tryz.ntmps64
  go_wp2
  go_step3
  go_wp2
  go_quiet (fail)
  go_wp2
  go_step3
  go_wp2
  clear ho c0 c1 c2 c3 c4 c5 c6 c7 c8 c9 fz
  go_loopg [] 2 (fun g wr => ∃ r : Nat, (g = 2 ∧ r = s.r1 ∨ g = 1 ∧ r = s.t.length ∧ s.run f = s.t.length - s.r1) ∧ Rep wr B D T E sk { s with r1 := r } ∧ Stp D E w E wr)
  case atStart => exact ⟨s.r1, .inl ⟨rfl, rfl⟩, H.out.drewN _, (Stp.refl _ _ _).drewN _⟩
  case round =>
    obtain ⟨r, hr, hrep, hstp⟩ := hrel
    have HG := hid hr; clear hr
    have Hrep := hid hrep; clear hrep
    have Hstp := hid hstp; clear hstp
    go_wp2_with fail
    refine (ensure_any Hrep.out 1 (by omega) 1 rfl).mono ?_; rintro e w1 ⟨rfl, n1, rfl⟩
    have he : (s.r0 : Int) + ((s.r1 : Int) - (s.r0 : Int)) = (s.r1 : Int) := by omega
    have hb0 : (0 : Int) ≤ (s.r1 : Int) := by omega
    by_cases hlt : r < s.t.length
    · have hb : (DSt.has { s with r1 := r } 1) = true := by simp [DSt.has]; omega
      rw [hb]
      clear hb
      obtain ⟨rfl, rfl⟩ : r = s.r1 ∧ gk = 2 := by have := HG.out; omega
      have Hr : Hid (Rep wr B D T E sk s) := Hrep
      clear Hrep HG
      obtain ⟨C, ec, q1, q2, q3, q4, c0, c1, c2, c3, c4, c5, c6, c7, c8, c9, fz, ho⟩ := Hr.out.cells
      have hne : ¬ C = s.r1 := by omega
      have hrl : (s.r1 : Int) ≤ (s.t.length : Int) := by omega
      clear ho c0 c4 c5 c6 c7 c8 c9 q3 q4
      go_wp2_with fail
      go_quiet (fail)
      go_wp2
      have hbyte := Hr.out.byte
      have HB := hid hbyte; clear hbyte
      have hD3 := fz 3
      obtain ⟨n, hn⟩ : ∃ n, n = s.t.length - s.r1 := ⟨_, rfl⟩
      rw [← hn]
      have HN := hid hn
      have hn1 : n + s.r1 ≤ s.t.length := by omega
      have hn2 : s.t.length ≤ n + s.r1 := by omega
      clear hn
      clear fz hne hrl
      go_loopg [32] n (fun g i wx => ∃ k : Nat, k + g = n ∧ i = .int .i64 k ∧ (∀ j (_ : j < k), ∃ h2 : s.r1 + j < s.t.length, f (s.t[s.r1 + j]'h2).toNat = true) ∧ ∃ m, wx = wr.drewN m)
      case atStart => exact ⟨0, by omega, rfl, fun j hj => by omega, _, rfl⟩
      case round =>
        obtain ⟨k, hkg, rfl, hall, m, rfl⟩ := hrel
        have HA := hid hall; clear hall
        cases gk with
        | zero =>
          obtain rfl : k = n := by omega
          go_wp2
          go_roundg 1
          case measure => omega
          case rel =>
            have hrun := run_end HN.out HA.out
            have e : s.t.length = s.r1 + k := by omega
            refine ⟨s.t.length, .inr ⟨rfl, rfl, by rw [hrun]; exact HN.out⟩, ?_, ?_⟩
            · have := (Hr.out.setR1 s.t.length (by omega) (Nat.le_refl _)).drewN m
              rw [show (s.t.length : Int) = (s.r1 : Int) + (k : Int) by omega] at this
              exact this
            · exact (Hstp.out.setD _ _).drewN _
        | succ g2 =>
          have hkn : (k : Int) < (n : Int) := by omega
          have hcell := HB.out (s.r1 + k) (by omega)
          have hcS := fun c => get_any (w := wr.drewN m) (S := S) (f := f) (by
            have : SetIs wr S f := by
              unfold SetIs
              rw [Hstp.out.block S HS.out.lt hSD]; exact HS.out
            exact this) c
          generalize hc : s.t[s.r1 + k]'(by omega) = c at *
          have HC := hid hc; clear hc
          cases hfc : f c.toNat
          · have HF := hid hfc
            go_wp2_with (go_at_call 62; refine (hcS c).mono ?_; rintro e w' ⟨rfl, rfl⟩)
            have hb1 : (s.r1 : Int) ≤ (s.r1 : Int) + (k : Int) := by omega
            have hb2 : (s.r1 : Int) + (k : Int) ≤ (C : Int) := by omega
            go_quiet (fail)
            go_wp2
            rw [Exit.noGoto_ret]
            go_ret
            have hrun := run_stop (by omega) HA.out (by rw [HC.out]; exact HF.out)
            rw [hrun]
            have hR := ((Hr.out.drewN m).setR1 (s.r1 + k) (by omega) (by omega)).drewN nq
            rw [show ((s.r1 + k : Nat) : Int) = (s.r1 : Int) + (k : Int) by omega] at hR
            exact ⟨E, _, rfl, ⟨bytes_at (slice_text hR C s.r1 (s.r1 + k) q1 q2 (by omega) (by show s.r1 + k ≤ s.t.length; omega)) (by omega), s.r1, C - s.r1, by rw [slice_len s s.r1 (s.r1 + k) (by omega)]; rfl⟩, hR, ((Hstp.out.drewN _).setD _ _).drewN _⟩
          · go_wp2_with (go_at_call 62; refine (hcS c).mono ?_; rintro e w' ⟨rfl, rfl⟩)
            go_roundg g2
            case measure => omega
            case rel =>
              refine ⟨k + 1, by omega, by go_num, fun j hj => ?_, _, rfl⟩
              by_cases hjk : j = k
              · subst hjk
                exact ⟨by omega, by rw [HC.out]; exact hfc⟩
              · exact HA.out j (by omega)
    · have hb : (DSt.has { s with r1 := r } 1) = false := by simp [DSt.has]; omega
      rw [hb]
      clear hb
      have hr2 : r = s.t.length ∧ s.run f = s.t.length - s.r1 := by have := HG.out; omega
      obtain ⟨rfl, hrun2⟩ := hr2
      have HRun := hid hrun2; clear hrun2
      obtain ⟨C, ec, q1, q2, q3, q4, c0, c1, c2, c3, c4, c5, c6, c7, c8, c9, fz, ho⟩ := Hrep.out.cells
      simp only [] at q1 c1 c2 c3
      have hb1 : (s.r1 : Int) ≤ (s.t.length : Int) := by omega
      have hb2 : (s.t.length : Int) ≤ (C : Int) := by omega
      clear ho c0 c4 c5 c6 c7 c8 c9 q3 q4 fz
      go_wp2_with fail
      go_quiet (fail)
      go_wp2
      all_goals
        go_ret
        rw [HRun.out, show s.r1 + (s.t.length - s.r1) = s.t.length by omega]
        have hR : ∀ m, Rep (wr.drewN m) B D T E sk { s with r1 := s.t.length } := fun m => Hrep.out.drewN m
        have hB := fun m => slice_text (hR m) C s.r1 s.t.length q1 q2 (by omega) (Nat.le_refl _)
      · have hCr : C = s.r1 := by assumption
        refine ⟨E, _, rfl, ⟨?_, 0, 0, by rw [slice_len s s.r1 s.t.length (Nat.le_refl _)]; rfl⟩, hR _, Hstp.out.drewN _⟩
        have := hB (n1 + nq)
        simp only [sliced, hCr, if_true, Nat.sub_self] at this
        exact this
      · have hCr : ¬ C = s.r1 := by assumption
        exact ⟨E, _, rfl, ⟨bytes_at (hB (n1 + nq)) hCr, s.r1, C - s.r1, by rw [slice_len s s.r1 s.t.length (Nat.le_refl _)]; rfl⟩, hR _, Hstp.out.drewN _⟩

/-- A slice that reads as these bytes and lies outside block D. -/
def BytesFar (D : Nat) (w : World) (v : Value) (l : List UInt8) : Prop := ∃ b o c, v = .slice (some ⟨b, o, none⟩) l.length c ∧ b ≠ D ∧ BytesIs w v l

theorem BytesFar.is {D : Nat} {w : World} {v : Value} {l : List UInt8} (h : BytesFar D w v l) : BytesIs w v l := by
  obtain ⟨_, _, _, _, _, h⟩ := h; exact h

theorem BytesFar.stp {D E E' : Nat} {w w' : World} {v : Value} {l : List UInt8} (h : BytesFar D w v l) (st : Stp D E w E' w') : BytesFar D w' v l := by
  obtain ⟨b, o, c, rfl, h1, h2⟩ := h
  exact ⟨b, o, c, rfl, h1, h2.stp h1 st⟩

theorem BytesFar.setD {D : Nat} {w : World} {v : Value} {l : List UInt8} (h : BytesFar D w v l) (i : Nat) (x : Value) : BytesFar D (w.setCell ⟨D, i, none⟩ x) v l := by
  obtain ⟨b, o, c, rfl, h1, h2⟩ := h
  exact ⟨b, o, c, rfl, h1, h2.setD h1⟩

theorem BytesFar.drewN {D : Nat} {w : World} {v : Value} {l : List UInt8} (h : BytesFar D w v l) (n : Nat) : BytesFar D (w.drewN n) v l := by
  obtain ⟨b, o, c, rfl, h1, h2⟩ := h
  exact ⟨b, o, c, rfl, h1, h2.drewN n⟩

theorem BytesFar.below {D : Nat} {w w' : World} {v : Value} {l : List UInt8} (h : BytesFar D w v l) (k : Below w.heap.size w w') : BytesFar D w' v l := by
  obtain ⟨b, o, c, rfl, h1, h2⟩ := h
  exact ⟨b, o, c, rfl, h1, h2.below k⟩

theorem RawIs.far {T D : Nat} {l : List UInt8} {v : Value} {w : World} (h : RawIs T l v w) (hDT : D ≠ T) : BytesFar D w v l := by
  obtain ⟨h1, o, c, rfl⟩ := h
  exact ⟨T, o, c, rfl, fun e => hDT e.symm, h1⟩

theorem take_far {w : World} {B D T E : Nat} {sk : Bool} {m : MSt} {es : List UInt8} {S : Nat} {f : Nat → Bool} (h : Rep w B D T E sk (m.d es)) (hS : SetIs w S f) (hSD : D < S) :
    Calls Tryz.prog 64 #[.pointer (some ⟨D, 0, none⟩), .pointer (some ⟨S, 0, none⟩)] w (DP B D T E sk w ((m.skip f).d es) fun w' v => BytesFar D w' v (m.ran f)) :=
  (take_raw h hS (by omega)).mono fun _ _ ⟨E', v, h1, h2, h3, h4⟩ => ⟨E', v, h1, h2.far h.DT, h3, h4⟩

/-- A token's slice lies outside block D. -/
theorem lies_far {w : World} {B D T E k : Nat} {sk : Bool} {s : DSt} (H : Rep w B D T E sk s) {v : Value} {l : List UInt8} (hb : BytesIs w v l) (hl : Lies T E k v) : BytesFar D w v l := by
  have hb' := hb
  obtain ⟨b, o, c, rfl, _⟩ := hb'
  refine ⟨b, o, c, rfl, ?_, hb⟩
  have h1 := H.DT
  have h2 := H.DE
  rcases lies_slice hl with h3 | h3 <;> omega

/-- It stays through another token. -/
theorem far_stw {w w' : World} {B D T E E' k : Nat} {sk : Bool} {s : DSt} (H : Rep w B D T E sk s) {v : Value} {l : List UInt8} (hb : BytesFar D w v l) (hl : Lies T E k v) (st : Stw k D E w E' w') : BytesFar D w' v l := by
  obtain ⟨b, o, c, rfl, h1, h2⟩ := hb
  exact ⟨b, o, c, rfl, h1, h2.stw (lies_slice hl) st H.DT H.TE⟩

theorem results_tmp4 {fn : Func} {t u v x : Tmp} (h : fn.results = #[.tmp t, .tmp u, .tmp v, .tmp x]) (tmps : Array Value) (P : Program) (w : World) :
    (results fn tmps).run P w = .ok (.tuple #[tmps.getD t undef, tmps.getD u undef, tmps.getD v undef, tmps.getD x undef]) w := by
  simp [results, h]

end Go.Proofs.YtejlokdcocacaaaGreatDoor
