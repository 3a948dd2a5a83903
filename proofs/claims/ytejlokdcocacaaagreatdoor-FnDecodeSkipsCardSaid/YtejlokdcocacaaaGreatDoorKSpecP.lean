/- The reference's Passed: the plain steps. -/
import Derived.Test.YtejlokdcocacaaaGreatDoorKSpecM
import Derived.Test.YtejlokdcocacaaaGreatDoorKDcx
import Derived.Test.YtejlokdcocacaaaGreatDoorKSect
namespace Go.Proofs.YtejlokdcocacaaaGreatDoor
open Go.RowKit

theorem at0_none {m : MSt} (h : m.has 1 = false) : m.at0 = 0 := by
  unfold MSt.has at h
  unfold MSt.at0
  simp at h
  rw [List.getD_eq_getElem?_getD, List.getElem?_eq_none (by omega)]
  rfl

section
variable {s : ByteArray} {k j p : Nat} {cur : MSt}

theorem step_end (h : Sp s k p cur) (hj : k + runN blankP s k = j) (he : s.size ≤ j) : skipStep cur = .inr (cur.skip blankP) ∧ Sp s j p (cur.skip blankP) := by
  have ha := h.skip blankP
  rw [hj] at ha
  have h0 := at0_none (m := cur.skip blankP) (by rw [ha.has1]; simp; omega)
  refine ⟨?_, ha⟩
  unfold skipStep
  simp only
  rw [h0, if_neg (by decide), if_neg (by decide), if_neg (by decide)]

theorem step_hash (h : Sp s k p cur) (h0r : cur.r0 ≤ cur.r1) (hj : k + runN blankP s k = j) (hl : j < s.size) (hc : s[j] = 35) {j2 : Nat} (hj2 : j + runN commentP s j = j2) {le : Nat × Bool} (hle : lineEnd (restOf s j2) = le) :
    (le.2 = true → ∃ x, skipStep cur = .inl x ∧ Sp s (j2 + le.1) p x) ∧ (le.2 = false → ∃ x, skipStep cur = .inr x ∧ Sp s k p x) := by
  have ha := h.skip blankP
  rw [hj] at ha
  have hb := ha.skip commentP
  rw [hj2] at hb
  have he := hb.eol
  rw [hle] at he
  have h0 := ha.at0 hl
  rw [hc] at h0
  unfold skipStep
  simp only
  rw [if_pos h0]
  obtain ⟨ln, lb⟩ := le
  cases lb
  · rw [if_neg (by rw [he.1]; simp)]
    refine ⟨fun h => by simp at h, fun _ => ⟨_, rfl, ?_⟩⟩
    rw [he.2.2 he.1]
    refine ⟨?_, h.2.1, h.2.2⟩
    rw [h.1]
    show cur.t.drop cur.r1 = cur.t.drop (cur.r0 + (cur.r1 - cur.r0))
    rw [Nat.add_sub_cancel' h0r]
  · rw [if_pos he.1]
    exact ⟨fun _ => ⟨_, rfl, he.2.1 he.1⟩, fun h => by simp at h⟩

theorem step_other (h : Sp s k p cur) (hj : k + runN blankP s k = j) (hl : j < s.size) (hc : s[j] ≠ 35) {le : Nat × Bool} (hle : lineEnd (restOf s j) = le) :
    (le.2 = true → ∃ x, skipStep cur = .inl x ∧ Sp s (j + le.1) p x) ∧ (le.2 = false → ∃ x, skipStep cur = .inr x ∧ Sp s j p x) := by
  have ha := h.skip blankP
  rw [hj] at ha
  have he := ha.eol
  have h0 := ha.at0 hl
  have hr := restOf_at s j hl
  rw [hle] at he
  unfold skipStep
  simp only
  rw [h0, if_neg hc]
  by_cases h10 : s[j] = 10
  · rw [if_pos h10]
    have e : le = (1, true) := by
      rw [← hle, hr, h10]
      rcases restOf s (j + 1) with _ | ⟨d, t⟩ <;> simp [lineEnd]
    rw [e]
    exact ⟨fun _ => ⟨_, rfl, (ha.adv 1 (by omega)).line _⟩, fun h => by simp at h⟩
  · rw [if_neg h10]
    by_cases h13 : s[j] = 13
    · rw [if_pos h13]
      obtain ⟨ln, lb⟩ := le
      cases lb
      · rw [if_neg (by rw [he.1]; simp)]
        exact ⟨fun h => by simp at h, fun _ => ⟨_, rfl, by rw [he.2.2 he.1]; exact ha⟩⟩
      · rw [if_pos he.1]
        exact ⟨fun _ => ⟨_, rfl, he.2.1 he.1⟩, fun h => by simp at h⟩
    · rw [if_neg h13]
      have e : le.2 = false := by
        rw [← hle, hr]
        rcases restOf s (j + 1) with _ | ⟨d, t⟩ <;> simp [lineEnd, h10, h13]
      rw [e]
      exact ⟨fun h => by simp at h, fun _ => ⟨_, rfl, ha⟩⟩
end
end Go.Proofs.YtejlokdcocacaaaGreatDoor

/- The reference's Passed. -/
namespace Go.Proofs.YtejlokdcocacaaaGreatDoor
open Go.RowKit

theorem eol_r0 {m : MSt} (h : m.r0 ≤ m.r1) : m.eol.2.r0 ≤ m.eol.2.r1 := by
  unfold MSt.eol
  repeat' split
  all_goals first | exact h | (show m.r0 ≤ m.r1 + 1; omega) | (show m.r0 ≤ m.r1 + 2; omega)

theorem skipStep_r0 {m m' : MSt} (h : m.r0 ≤ m.r1) (hs : skipStep m = .inl m') : m'.r0 ≤ m'.r1 := by
  have ha : (m.skip blankP).r0 ≤ (m.skip blankP).r1 := by show m.r0 ≤ m.r1 + _; omega
  have hb : ((m.skip blankP).skip commentP).r0 ≤ ((m.skip blankP).skip commentP).r1 := by show m.r0 ≤ (m.skip blankP).r1 + _; have : (m.skip blankP).r0 = m.r0 := rfl; omega
  unfold skipStep at hs
  simp only at hs
  split at hs
  · split at hs
    · simp only [Sum.inl.injEq] at hs
      subst hs
      exact eol_r0 hb
    · simp at hs
  split at hs
  · simp only [Sum.inl.injEq] at hs
    subst hs
    show (m.skip blankP).r0 ≤ (m.skip blankP).r1 + 1
    omega
  split at hs
  · split at hs
    · simp only [Sum.inl.injEq] at hs
      subst hs
      exact eol_r0 ha
    · simp at hs
  · simp at hs

set_option maxHeartbeats 8000000 in
set_option maxRecDepth 100000 in
theorem passed_spec {w : World} {s : ByteArray} {m : MSt} {p : Nat} (hs : s.size ≤ 1000) (hm : Sp s 0 p m) (hr0 : m.r0 ≤ m.r1) :
    Calls Tryz.prog 44 #[.string s] w fun e w' => ∃ n : Nat, e = .returned (.int .i64 (n : Int)) ∧ Sp s n p (mSkip m) ∧ w' = w := by
  have HM := hid hm
  have HR0 := hid hr0
  clear hm hr0
  go_enter Tryz.func44, Tryz.ntmps44
  go_wp2_with fail
  go_loopg [3] (m.left + 1) (fun gh u3 wx => ∃ (k : Nat) (cur : MSt), gh = cur.left + 1 ∧ u3 = .int .i64 k ∧ Hid (iterR skipStep m0 cur = mSkip m) ∧ Hid (Sp s k p cur) ∧ Hid (cur.r0 ≤ cur.r1) ∧ k ≤ s.size ∧ wx = w)
  case atStart => exact ⟨0, m, rfl, rfl, hid rfl, HM, HR0, Nat.zero_le _, rfl⟩
  case round =>
    obtain ⟨k, cur, hg, rfl, hit, HS, hr, hk, rfl⟩ := hrel
    have HGH := hid hg
    clear HM HR0 hg
    obtain ⟨j, hj⟩ : ∃ j, k + runN blankP s k = j := ⟨_, rfl⟩
    have hjs : j ≤ s.size := by rw [← hj]; exact runN_le hk
    have HJ := hid hj
    clear hj
    go_wp2_with fail
    go_loopg [3] (s.size - k + 1) (fun gh u3 wx => ∃ q : Nat, gh + q = s.size + 1 ∧ k ≤ q ∧ q ≤ s.size ∧ u3 = .int .i64 q ∧ Hid (q + runN blankP s q = j) ∧ wx = wr)
    case atStart => exact ⟨k, by omega, Nat.le_refl _, hk, rfl, HJ, rfl⟩
    case round =>
      obtain ⟨q, hgq, hkq, hqs, rfl, hq, rfl⟩ := hrel
      cases hnx : nextIs blankP s q
      · have hz := runN_zero hnx
        have hqj : q = j := by have := hq.out; omega
        subst hqj
        by_cases hlt : q < s.size
        · have t1 : (q : Int) < (s.size : Int) := by omega
          have e32 : ((s[q].toNat : Int) == 32) = false := by
            unfold nextIs at hnx
            rw [dif_pos hlt] at hnx
            rw [beq_eq_false_iff_ne]
            intro h
            have : s[q].toNat = 32 := by omega
            rw [this] at hnx
            simp [blankP] at hnx
          have t2 : ((q : Int) == (s.size : Int)) = false := by rw [beq_eq_false_iff_ne]; omega
          clear hnx hz hq
          go_upto_region 7 with fail
          have tq : (q : Int) ≤ (s.size : Int) := by omega
          by_cases hc : s[q] = 35
          · have e35 : ((s[q].toNat : Int) == 35) = true := by rw [hc]; rfl
            obtain ⟨j2, hj2⟩ : ∃ j2, q + runN commentP s q = j2 := ⟨_, rfl⟩
            have hj2s : j2 ≤ s.size := by rw [← hj2]; exact runN_le (by omega)
            obtain ⟨le, hle⟩ : ∃ le, lineEnd (restOf s j2) = le := ⟨_, rfl⟩
            have hst := step_hash HS.out hr.out HJ.out hlt hc hj2 hle
            have hlen := lineEnd_spec (s.extract j2 s.size) (by rw [ByteArray.size_extract]; omega)
            rw [extract_rest, hle] at hlen
            have HLE := hid hlen
            have HST := hid hst
            have HJ2 := hid hj2
            clear hst hj2 hlen hle hc
            obtain ⟨ln, lb⟩ := le
            go_wp2_with fail
            go_loopg [3] (s.size - q + 1) (fun gh u3 wx => ∃ r : Nat, gh + r = s.size + 1 ∧ q ≤ r ∧ r ≤ s.size ∧ u3 = .int .i64 r ∧ Hid (r + runN commentP s r = j2) ∧ wx = wr)
            case atStart => exact ⟨q, by omega, Nat.le_refl _, by omega, rfl, HJ2, rfl⟩
            case round =>
              obtain ⟨r, hgr, hqr, hrs, rfl, hrr, rfl⟩ := hrel
              cases hnx2 : nextIs commentP s r
              · have hz := runN_zero hnx2
                have hrj : r = j2 := by have := hrr.out; omega
                subst hrj
                have tr : (r : Int) ≤ (s.size : Int) := by omega
                by_cases hlt2 : r < s.size
                · have t3 : (r : Int) < (s.size : Int) := by omega
                  have hin := fun w => in_11 (s[r].toNat) w
                  have hcp : commentP s[r].toNat = false := by
                    unfold nextIs at hnx2
                    rw [dif_pos hlt2] at hnx2
                    exact hnx2
                  rw [hcp] at hin
                  have HIN := hid hin
                  clear hnx2 hz hrr hin hcp
                  cases lb
                  · obtain ⟨x, h1, h2⟩ := HST.out.2 rfl
                    have hmm : mSkip m = x := by rw [← hit.out]; exact iterR_done h1
                    have HMM := hid hmm
                    have HE := hid h2
                    clear h1 h2 hmm HST
                    go_wp2_with fail
                    refine (HIN.out _).mono ?_
                    rintro e w2 ⟨rfl, rfl⟩
                    go_wp2_with fail
                    refine (HLE.out _).mono ?_
                    rintro e w2 ⟨rfl, rfl⟩
                    go_wp2_with fail
                    go_ret
                    rw [HMM.out]
                    exact ⟨k, rfl, HE.out, rfl⟩
                  · obtain ⟨x, h1, h2⟩ := HST.out.1 rfl
                    have hit2 : iterR skipStep m0 x = mSkip m := by rw [← hit.out]; exact (iterR_more h1).symm
                    have HIT2 := hid hit2
                    have HE := hid h2
                    have HRX := hid (skipStep_r0 hr.out h1)
                    have HLT := hid ((skipStep_adv cur).1 x h1).2
                    have hln : r + ln ≤ s.size := h2.2.1
                    clear h1 h2 hit2 HST
                    go_wp2_with fail
                    refine (HIN.out _).mono ?_
                    rintro e w2 ⟨rfl, rfl⟩
                    go_wp2_with fail
                    refine (HLE.out _).mono ?_
                    rintro e w2 ⟨rfl, rfl⟩
                    go_wp2_with fail
                    go_roundg (x.left + 1)
                    case measure => have := HGH.out; have := HLT.out; omega
                    case rel => exact ⟨r + ln, x, rfl, by go_num, HIT2, HE, HRX, hln, rfl⟩
                · have t3 : ¬ (r : Int) < (s.size : Int) := by omega
                  clear hnx2 hz hrr
                  cases lb
                  · obtain ⟨x, h1, h2⟩ := HST.out.2 rfl
                    have hmm : mSkip m = x := by rw [← hit.out]; exact iterR_done h1
                    have HMM := hid hmm
                    have HE := hid h2
                    clear h1 h2 hmm HST
                    go_wp2_with fail
                    refine (HLE.out _).mono ?_
                    rintro e w2 ⟨rfl, rfl⟩
                    go_wp2_with fail
                    go_ret
                    rw [HMM.out]
                    exact ⟨k, rfl, HE.out, rfl⟩
                  · obtain ⟨x, h1, h2⟩ := HST.out.1 rfl
                    have hit2 : iterR skipStep m0 x = mSkip m := by rw [← hit.out]; exact (iterR_more h1).symm
                    have HIT2 := hid hit2
                    have HE := hid h2
                    have HRX := hid (skipStep_r0 hr.out h1)
                    have HLT := hid ((skipStep_adv cur).1 x h1).2
                    have hln : r + ln ≤ s.size := h2.2.1
                    clear h1 h2 hit2 HST
                    go_wp2_with fail
                    refine (HLE.out _).mono ?_
                    rintro e w2 ⟨rfl, rfl⟩
                    go_wp2_with fail
                    go_roundg (x.left + 1)
                    case measure => have := HGH.out; have := HLT.out; omega
                    case rel => exact ⟨r + ln, x, rfl, by go_num, HIT2, HE, HRX, hln, rfl⟩
              · have hsu := runN_succ hnx2
                have hlt2 := hsu.1
                have t3 : (r : Int) < (s.size : Int) := by omega
                have hr2 : r + 1 + runN commentP s (r + 1) = j2 := by have := hrr.out; omega
                have HR2 := hid hr2
                have hin := fun w => in_11 (s[r].toNat) w
                have hcp : commentP s[r].toNat = true := by
                  unfold nextIs at hnx2
                  rw [dif_pos hlt2] at hnx2
                  exact hnx2
                rw [hcp] at hin
                have HIN := hid hin
                clear hnx2 hsu hrr hr2 hin hcp
                go_wp2_with fail
                refine (HIN.out _).mono ?_
                rintro e w2 ⟨rfl, rfl⟩
                go_wp2_with fail
                go_roundg (s.size - r)
                case measure => omega
                case rel => exact ⟨r + 1, by omega, by omega, by omega, by go_num, HR2, rfl⟩
          · have e35 : ((s[q].toNat : Int) == 35) = false := by
              rw [beq_eq_false_iff_ne]
              intro h
              exact hc (UInt8.toNat.inj (by show s[q].toNat = 35; omega))
            obtain ⟨le, hle⟩ : ∃ le, lineEnd (restOf s q) = le := ⟨_, rfl⟩
            have hst := step_other HS.out HJ.out hlt hc hle
            have hlen := lineEnd_spec (s.extract q s.size) (by rw [ByteArray.size_extract]; omega)
            rw [extract_rest, hle] at hlen
            have HLE := hid hlen
            have HST := hid hst
            clear hst hlen hle hc
            obtain ⟨ln, lb⟩ := le
            cases lb
            · obtain ⟨x, h1, h2⟩ := HST.out.2 rfl
              have hmm : mSkip m = x := by rw [← hit.out]; exact iterR_done h1
              have HMM := hid hmm
              have HE := hid h2
              clear h1 h2 hmm HST
              go_wp2_with fail
              refine (HLE.out _).mono ?_
              rintro e w2 ⟨rfl, rfl⟩
              go_wp2_with fail
              go_ret
              rw [HMM.out]
              exact ⟨q, rfl, HE.out, rfl⟩
            · obtain ⟨x, h1, h2⟩ := HST.out.1 rfl
              have hit2 : iterR skipStep m0 x = mSkip m := by rw [← hit.out]; exact (iterR_more h1).symm
              have HIT2 := hid hit2
              have HE := hid h2
              have HRX := hid (skipStep_r0 hr.out h1)
              have HLT := hid ((skipStep_adv cur).1 x h1).2
              have hln : q + ln ≤ s.size := h2.2.1
              clear h1 h2 hit2 HST
              go_wp2_with fail
              refine (HLE.out _).mono ?_
              rintro e w2 ⟨rfl, rfl⟩
              go_wp2_with fail
              go_roundg (x.left + 1)
              case measure => have := HGH.out; have := HLT.out; omega
              case rel => exact ⟨q + ln, x, rfl, by go_num, HIT2, HE, HRX, hln, rfl⟩
        · have t1 : ¬ (q : Int) < (s.size : Int) := by omega
          have t2 : ((q : Int) == (s.size : Int)) = true := by rw [beq_iff_eq]; omega
          obtain ⟨h1, h2⟩ := step_end HS.out HJ.out (by omega)
          have hmm : mSkip m = cur.skip blankP := by rw [← hit.out]; exact iterR_done h1
          have HMM := hid hmm
          have HE := hid h2
          clear h1 h2 hmm hnx hz hq
          go_wp2_with fail
          go_ret
          rw [HMM.out]
          exact ⟨q, rfl, HE.out, rfl⟩
      · have hsu := runN_succ hnx
        have hlt := hsu.1
        have t1 : (q : Int) < (s.size : Int) := by omega
        have hq2 : q + 1 + runN blankP s (q + 1) = j := by have := hq.out; omega
        have HQ2 := hid hq2
        have e32 : ((s[q].toNat : Int) == 32) = true := by
          unfold nextIs at hnx
          rw [dif_pos hlt] at hnx
          have : s[q].toNat = 32 := by simpa [blankP] using hnx
          rw [beq_iff_eq]; omega
        clear hnx hsu hq hq2
        go_wp2_with fail
        go_roundg (s.size - q)
        case measure => omega
        case rel => exact ⟨q + 1, by omega, by omega, by omega, by go_num, HQ2, rfl⟩
end Go.Proofs.YtejlokdcocacaaaGreatDoor

/- The reference's Next: the plain steps. -/
namespace Go.Proofs.YtejlokdcocacaaaGreatDoor
open Go.RowKit

theorem mEnd_5 {m : MSt} (h : m.sec = 5) : mEnd m = m := by
  have h5 : to5 m = (m, none) := by unfold to5; rw [if_neg (by omega)]
  unfold mEnd
  rw [h5]
  rfl
theorem mEnd_4 {m : MSt} (h : m.sec = 4) : mEnd m = mLine m := by
  have h5 : to5 m = (mLine m, none) := by
    unfold to5
    rw [if_pos (by omega), mTo_more (by omega) (sect4 h), mTo_at (by show 5 ≤ 5; omega)]
  unfold mEnd
  rw [h5]
  rfl

section
variable {s : ByteArray} {i p : Nat} {m : MSt}

theorem restOf_ext (s : ByteArray) (i n : Nat) : restOf (s.extract i s.size) n = restOf s (i + n) := by
  show (s.extract i s.size).data.toList.drop n = _
  rw [extract_rest, restOf_drop]
theorem size_ext (s : ByteArray) (i : Nat) : (s.extract i s.size).size = s.size - i := by rw [ByteArray.size_extract]; omega
theorem Sp.sub (h : Sp s i p m) : Sp (s.extract i s.size) 0 p m := ⟨by rw [restOf_ext]; exact h.1, Nat.zero_le _, h.2.2⟩
theorem Sp.sup {n : Nat} (h : Sp (s.extract i s.size) n p m) (hi : i ≤ s.size) : Sp s (i + n) p m := by
  refine ⟨by rw [← restOf_ext]; exact h.1, ?_, h.2.2⟩
  have := h.2.1
  rw [size_ext] at this
  omega

theorem runN_stop {f : Nat → Bool} {s : ByteArray} {i : Nat} (h : i + runN f s i < s.size) : f (s[i + runN f s i]).toNat = false := by
  have hd := List.head?_dropWhile_not (fun c : UInt8 => f c.toNat) (restOf s i)
  have hx : (restOf s i).dropWhile (fun c : UInt8 => f c.toNat) = restOf s (i + runN f s i) := by
    have h1 := List.takeWhile_append_dropWhile (p := fun c : UInt8 => f c.toNat) (l := restOf s i)
    rw [← restOf_drop]
    conv => rhs; arg 2; rw [← h1]
    show _ = List.drop (List.takeWhile _ (s.data.toList.drop i)).length _
    exact (List.drop_left).symm
  rw [hx, restOf_at s _ h] at hd
  simpa using hd

theorem Sp.line4 (h : Sp s i 4 m) : Sp s (min (i + runN notNlP s i + 1) s.size) 5 (mLine m) ∧ (mLine m).r0 ≤ (mLine m).r1 := by
  have ha := h.skip notNlP
  obtain ⟨i1, hi1⟩ : ∃ i1, i + runN notNlP s i = i1 := ⟨_, rfl⟩
  have hst := runN_stop (f := notNlP) (s := s) (i := i)
  rw [hi1] at ha ⊢
  have hle := ha.2.1
  unfold mLine
  simp only
  have hr : ∀ b : MSt, (b.reset.to 5).r0 ≤ (b.reset.to 5).r1 := fun b => by
    unfold MSt.reset
    split
    · exact Nat.le_refl 0
    · exact Nat.le_refl _
  by_cases hl : i1 < s.size
  · have h10 : (m.skip notNlP).at0 = 10 := by
      rw [ha.at0 hl]
      subst hi1
      have := hst hl
      simp [notNlP] at this
      exact UInt8.toNat.inj (by rw [this]; rfl)
    rw [if_pos h10, Nat.min_eq_left (by omega)]
    exact ⟨((ha.adv 1 (by omega)).line _).reset.to 5, hr _⟩
  · have h0 := at0_none (m := m.skip notNlP) (by rw [ha.has1]; simp; omega)
    rw [h0, if_neg (by decide), Nat.min_eq_right (by omega)]
    have he : i1 = s.size := by omega
    rw [← he]
    exact ⟨ha.reset.to 5, hr _⟩
end
end Go.Proofs.YtejlokdcocacaaaGreatDoor
