/- The plain state beside the one with unescaped bytes; the comma behind a measurement or a tag. -/
import Derived.Test.YtejlokdcocacaaaGreatDoorErr
import Derived.Outline
namespace Go.Proofs.YtejlokdcocacaaaGreatDoor
open Go.RowKit Go.Proofs.YtejlokdcocacaaaGreatDoorW.PrintLast

theorem d_reset (m : MSt) (es : List UInt8) : (m.d es).reset = m.reset.d [] := by
  by_cases h : m.t.length = m.r1
  · have h' : (m.d es).t.length = (m.d es).r1 := h
    rw [DSt.reset, MSt.reset, if_pos h, if_pos h']; rfl
  · have h' : ¬ (m.d es).t.length = (m.d es).r1 := h
    rw [DSt.reset, MSt.reset, if_neg h, if_neg h']; rfl

theorem d_eol (m : MSt) (es : List UInt8) : (m.d es).eol = (m.eol.1, m.eol.2.d es) := by
  have h1 : (m.d es).has 1 = m.has 1 := rfl
  have h2 : (m.d es).has 2 = m.has 2 := rfl
  have h3 : (m.d es).at 0 = m.at0 := rfl
  have h4 : (m.d es).at 1 = m.t.getD (m.r1 + 1) 0 := rfl
  unfold DSt.eol MSt.eol
  rw [h1, h2, h3, h4]
  repeat' split
  all_goals rfl

theorem d_ok {m : MSt} (es : List UInt8) (h : m.Ok) : (m.d es).Ok := h

/-- A fault, or none. -/
def FltIs (B : Nat) (o : Option Flt) (w : World) (v : Value) : Prop :=
  match o with
  | none => v = .nilIface
  | some f => ErrIs B f w v

theorem at0_code {w : World} {B D T E : Nat} {sk : Bool} {m : MSt} {es : List UInt8} (h : Rep w B D T E sk (m.d es)) (v : Int) (hv : v = 0) :
    Calls Tryz.prog 63 #[.pointer (some ⟨D, 0, none⟩), .int .i64 v] w fun e w' => e = .returned (.int .u8 (m.at0.toNat : Int)) ∧ ∃ n, w' = w.drewN n := by
  subst hv
  exact at_any h 0 (by omega) 0 rfl

theorem has_code {w : World} {B D T E : Nat} {sk : Bool} {m : MSt} {es : List UInt8} (h : Rep w B D T E sk (m.d es)) (v : Int) (hv : v = 1) :
    Calls Tryz.prog 52 #[.pointer (some ⟨D, 0, none⟩), .int .i64 v] w fun e w' => e = .returned (.bool (m.has 1)) ∧ ∃ n, w' = w.drewN n := by
  subst hv
  exact ensure_any h 1 (by omega) 1 rfl

theorem adv_code {w : World} {B D T E : Nat} {sk : Bool} {m : MSt} {es : List UInt8} (h : Rep w B D T E sk (m.d es)) (hh : m.has 1 = true) (v : Int) (hv : v = 1) :
    Calls Tryz.prog 67 #[.pointer (some ⟨D, 0, none⟩), .int .i64 v] w (DP B D T E sk w ((m.adv 1).d es) fun _ v => v = .tuple #[]) := by
  subst hv
  exact advance_any h 1 (by show m.r1 + 1 ≤ m.t.length; simpa [MSt.has] using hh) 1 rfl

theorem errIs_far {B : Nat} {f : Flt} {w w' : World} {v : Value} (h : ErrIs B f w v) (hk : ∀ k, k < w.heap.size → B ≤ k → (∃ c t, w.heap[k]? = some (.cells c t (0, 0)) ∧ (t = 132 ∨ t = 169)) → w'.heap[k]? = w.heap[k]?) : ErrIs B f w' v := by
  obtain ⟨X, Y, rfl, hx, h1, h2, s, h3⟩ := h
  exact ⟨X, Y, rfl, by rw [hk X (lt_of_block hx) h1 ⟨_, _, hx, .inl rfl⟩]; exact hx, h1, h2, s, by rw [hk Y (lt_of_block h3) h2 ⟨_, _, h3, .inr rfl⟩]; exact h3⟩

set_option maxHeartbeats 4000000 in
theorem comma_any {w : World} {B D T E : Nat} {sk : Bool} {m : MSt} {es : List UInt8} (h : Rep w B D T E sk (m.d es)) (hk : m.Ok) :
    Calls Tryz.prog 59 #[.pointer (some ⟨D, 0, none⟩)] w (DP B D T E sk w ((mComma m).1.d es) (FltIs B (mComma m).2)) := by
  have H := hid h; clear h
  have HK := hid hk; clear hk
  go_enter Tryz.func59, Tryz.ntmps59
  go_wp2_with fail
  refine (has_code H.out 1 rfl).mono ?_; rintro e w1 ⟨rfl, n1, rfl⟩
  cases hb : m.has 1
  · have HB := hid hb; clear hb
    go_wp2
    go_ret
    have e1 : mComma m = (m, none) := by simp [mComma, HB.out]
    rw [e1]
    exact ⟨E, _, rfl, rfl, H.out.drewN _, (Stp.refl _ _ _).drewN _⟩
  have HB := hid hb; clear hb
  go_wp2_with fail
  refine (at0_code (H.out.drewN n1) 0 rfl).mono ?_; rintro e w1 ⟨rfl, n2, rfl⟩
  by_cases h44 : m.at0 = 44
  · have e1 : (m.at0.toNat : Int) = 44 := by rw [h44]; rfl
    rw [e1]
    have H44 := hid h44; clear h44 e1
    go_wp2_with fail
    refine (adv_code (H.out.drewN _) HB.out 1 rfl).mono ?_; rintro e w2 ⟨E2, v, rfl, rfl, h2, st2⟩
    obtain rfl : E2 = E := st2.esc
    have H2 := hid h2; clear h2
    have HS := hid (((Stp.refl D E2 w).drewN _).trans st2); clear st2
    obtain ⟨m1, hm1⟩ : ∃ m1, m.adv 1 = m1 := ⟨_, rfl⟩
    have hok1 : m1.Ok := by rw [← hm1]; exact (adv_adv m 1).ok HK.out
    have HOK1 := hid hok1; clear hok1
    have HM1 := hid hm1
    rw [hm1] at H2
    clear hm1
    go_wp2_with fail
    refine (has_code H2.out 1 rfl).mono ?_; rintro e w3 ⟨rfl, n3, rfl⟩
    cases hb1 : m1.has 1
    · have HB1 := hid hb1; clear hb1
      go_wp2_with fail
      refine region59_8 (D := D) (m := m1) (fun _ _ _ _ _ h => h) rfl rfl (H2.out.drewN n3) HOK1.out ?_
      intro w4 v hr4 st4 hE
      have HR4 := hid hr4; clear hr4
      have HS4 := hid st4; clear st4
      have HE := hid hE; clear hE
      simp only [putAll, Act.put, List.setIfInBounds_toArray, List.set_cons_zero, List.set_cons_succ]
      go_wp2_with fail
      go_ret
      have e1 : mComma m = (m1.broke, some (m1.flt m1.off)) := by unfold mComma; rw [if_pos ⟨HB.out, H44.out⟩, HM1.out, if_pos (.inl HB1.out)]
      rw [e1]
      exact ⟨E2, _, rfl, HE.out, HR4.out, (HS.out.drewN _).trans HS4.out⟩
    · have HB1 := hid hb1; clear hb1
      go_wp2_with fail
      refine (white_any _).mono ?_; rintro e w4 ⟨S, rfl, hS, hbel, hSl⟩
      have hr4 := (H2.out.drewN n3).below hbel
      have st4 := (HS.out.drewN n3).below hbel
      have HR4 := hid hr4; clear hr4
      have HS4 := hid st4; clear st4 hbel
      have HSet := hid hS; clear hS hSl
      go_wp2_with fail
      refine (at0_code HR4.out 0 rfl).mono ?_; rintro e w5 ⟨rfl, n5, rfl⟩
      have hget := get_any (w := w4.drewN n5) (S := S) (f := whiteP) HSet.out m1.at0
      obtain ⟨wb, hwb⟩ : ∃ wb, whiteP m1.at0.toNat = wb := ⟨_, rfl⟩
      rw [hwb] at hget
      have HWB := hid hwb; clear hwb
      go_wp2_with fail
      refine hget.mono ?_; rintro e w6 ⟨rfl, rfl⟩
      clear hget
      cases wb
      · go_wp2_with fail
        go_ret
        have e1 : mComma m = (m1, none) := by unfold mComma; rw [if_pos ⟨HB.out, H44.out⟩, HM1.out, if_neg (by rw [HB1.out, HWB.out]; simp)]
        rw [e1]
        exact ⟨E2, _, rfl, rfl, HR4.out.drewN _, HS4.out.drewN _⟩
      · go_wp2_with fail
        refine region59_10 (D := D) (m := m1) (fun _ _ _ _ _ h => h) rfl rfl (HR4.out.drewN n5) HOK1.out ?_
        intro w7 v hr7 st7 hE
        have HR7 := hid hr7; clear hr7
        have HS7 := hid st7; clear st7
        have HE := hid hE; clear hE
        simp only [putAll, Act.put, List.setIfInBounds_toArray, List.set_cons_zero, List.set_cons_succ]
        go_wp2_with fail
        go_ret
        have e1 : mComma m = (m1.broke, some (m1.flt m1.off)) := by unfold mComma; rw [if_pos ⟨HB.out, H44.out⟩, HM1.out, if_pos (.inr HWB.out)]
        rw [e1]
        exact ⟨E2, _, rfl, HE.out, HR7.out, (HS4.out.drewN _).trans HS7.out⟩
  · have e44 : ((m.at0.toNat : Int) != 44) = true := by
      rw [bne_iff_ne]; exact fun e => h44 ((u8_eq _ 44 (by omega)).1 (by rw [beq_iff_eq]; exact e))
    have H44 := hid h44; clear h44
    go_wp2_with fail
    go_ret
    have e1 : mComma m = (m, none) := by unfold mComma; rw [if_neg (fun h => H44.out h.2)]
    rw [e1]
    exact ⟨E, _, rfl, rfl, H.out.drewN _, (Stp.refl _ _ _).drewN _⟩
end Go.Proofs.YtejlokdcocacaaaGreatDoor
