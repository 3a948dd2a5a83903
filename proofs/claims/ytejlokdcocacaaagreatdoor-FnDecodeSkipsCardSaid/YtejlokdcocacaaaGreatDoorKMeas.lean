/- What a method of the decoder leaves; advanceToSection where nothing is to be read away; Measurement. -/
import Derived.Test.YtejlokdcocacaaaGreatDoorKErr
import Derived.Test.YtejlokdcocacaaaGreatDoorKTakeEsc
namespace Go.Proofs.YtejlokdcocacaaaGreatDoor
open Go.RowKit Go.Proofs.YtejlokdcocacaaaGreatDoorW.PrintLast

/-- What a method leaves: the decoder in the plain state m', a result of which R holds. -/
def DX (B D T E : Nat) (sk : Bool) (w : World) (m' : MSt) (R : World → Value → Prop) (e : Ending) (w' : World) : Prop :=
  ∃ E' es v, e = .returned v ∧ R w' v ∧ Rep w' B D T E' sk (m'.d es) ∧ Stw 0 D E w E' w' ∧ es.length + m'.r0 ≤ m'.r1

theorem d_tk (m : MSt) (es : List UInt8) (f : Nat → Bool) (g : Nat → Int) (sk : Bool) : ∃ es', (m.d es).took f g sk = (m.tk f g).d es' ∧ es.length ≤ es'.length ∧ es'.length ≤ es.length + (tok f g m.rest).1 := by
  have hr : (m.d es).rest = m.rest := rfl
  have hl := (tok_le f g _ m.rest (Nat.le_refl _)).2
  unfold DSt.took
  rw [hr]
  by_cases h : sk = true ∨ (tok f g m.rest).2.length = (tok f g m.rest).1
  · rw [if_pos h]
    exact ⟨es, rfl, Nat.le_refl _, by omega⟩
  · rw [if_neg h]
    exact ⟨es ++ (tok f g m.rest).2, rfl, by simp, by rw [List.length_append]; omega⟩

/-- What a token says: the bytes as they stand, where all is skipped. -/
def MSt.said (m : MSt) (f : Nat → Bool) (g : Nat → Int) (sk : Bool) : List UInt8 := if sk = true then m.rest.take (tok f g m.rest).1 else (tok f g m.rest).2

theorem said_none (m : MSt) (f : Nat → Bool) (g : Nat → Int) (sk : Bool) : (m.said f g sk).length = 0 ↔ (tok f g m.rest).1 = 0 := by
  have h1 := (tok_le f g _ m.rest (Nat.le_refl _)).1
  have h2 := tok_nil f g m.rest
  unfold MSt.said
  split
  · rw [List.length_take]; omega
  · rw [List.length_eq_zero_iff]; exact h2

/-- The condition on escapes. -/
def EscOk (g : Nat → Int) : Prop := ∀ c, c < 256 → (0 ≤ g c ∧ g c < 256) ∧ (g c ≠ 0 → c < 128 ∧ 0 ≤ g c ∧ g c < 128)
theorem measE_ok : EscOk measE := by
  intro c _
  unfold measE
  split <;> omega
theorem tagE_ok : EscOk tagE := by
  intro c _
  unfold tagE
  split <;> omega
theorem strE_ok : EscOk strE := by
  intro c _
  unfold strE
  repeat' split
  all_goals omega

/-- What takeEsc leaves. -/
def TakeX (B D T E : Nat) (sk : Bool) (w : World) (m : MSt) (n : Nat) (f : Nat → Bool) (g : Nat → Int) (ok : Bool) (e : Ending) (w' : World) : Prop :=
  if ok = true then ∃ E' es' v1, e = .returned (.tuple #[v1, .int .i64 ((m.r1 : Int) - (m.r0 : Int)), .nilIface]) ∧ BytesIs w' v1 (m.said f g sk) ∧ Lies T E' es'.length v1 ∧ Rep w' B D T E' sk ((m.tk f g).d es') ∧ Stw n D E w E' w' ∧ n ≤ es'.length ∧ es'.length + (m.tk f g).r0 ≤ (m.tk f g).r1
  else ∃ E' es' v1 v3, e = .returned (.tuple #[v1, .int .i64 ((m.r1 : Int) - (m.r0 : Int)), v3]) ∧ ErrIs B ((m.tk f g).flt m.off) w' v3 ∧ Rep w' B D T E' sk ((m.tk f g).broke.d es') ∧ Stw n D E w E' w' ∧ es'.length + (m.tk f g).r0 ≤ (m.tk f g).r1

theorem TakeX.bad {B D T E : Nat} {sk : Bool} {w : World} {m : MSt} {n : Nat} {f : Nat → Bool} {g : Nat → Int} {e : Ending} {w' : World} (h : TakeX B D T E sk w m n f g false e w') :
    ∃ E' es' v1 v3, e = .returned (.tuple #[v1, .int .i64 ((m.r1 : Int) - (m.r0 : Int)), v3]) ∧ ErrIs B ((m.tk f g).flt m.off) w' v3 ∧ Rep w' B D T E' sk ((m.tk f g).broke.d es') ∧ Stw n D E w E' w' ∧ es'.length + (m.tk f g).r0 ≤ (m.tk f g).r1 := by
  unfold TakeX at h; rw [if_neg (by simp)] at h; exact h
theorem TakeX.good {B D T E : Nat} {sk : Bool} {w : World} {m : MSt} {n : Nat} {f : Nat → Bool} {g : Nat → Int} {e : Ending} {w' : World} (h : TakeX B D T E sk w m n f g true e w') :
    ∃ E' es' v1, e = .returned (.tuple #[v1, .int .i64 ((m.r1 : Int) - (m.r0 : Int)), .nilIface]) ∧ BytesIs w' v1 (m.said f g sk) ∧ Lies T E' es'.length v1 ∧ Rep w' B D T E' sk ((m.tk f g).d es') ∧ Stw n D E w E' w' ∧ n ≤ es'.length ∧ es'.length + (m.tk f g).r0 ≤ (m.tk f g).r1 := by
  unfold TakeX at h; rw [if_pos rfl] at h; exact h

theorem take_code {w : World} {B D T E : Nat} {sk : Bool} {m : MSt} {es : List UInt8} {S X : Nat} {f : Nat → Bool} {g : Nat → Int} (h : Rep w B D T E sk (m.d es)) (hes : es.length + m.r0 ≤ m.r1) (hk : m.Ok)
    (hS : SetIs w S f) (hX : EscIs w X g) (hSD : D < S) (hSE : E < S) (hXD : D < X) (hXE : E < X) (hg : EscOk g) (ok : Bool) (hok : Lib.validD (tok f g m.rest).2 = ok) :
    Calls Tryz.prog 54 #[.pointer (some ⟨D, 0, none⟩), .pointer (some ⟨S, 0, none⟩), .pointer (some ⟨X, 256, none⟩)] w (TakeX B D T E sk w m es.length f g ok) := by
  have hv : Lib.validD ((m.d es).said f g sk) = ok := by
    rw [← hok]
    unfold DSt.said
    split
    · exact tok_valid f g (fun c hc => (hg c hc).2) _
    · rfl
  refine (takeEsc_any h hes hk hS hX (by omega) (by omega) (by omega) (by omega) (fun c hc => (hg c hc).1)).mono ?_
  rintro e w' ⟨E', v, rfl, hR, hr, hs⟩
  obtain ⟨es', he, hl1, hl2⟩ := d_tk m es f g sk
  unfold TookIs at hR
  unfold DSt.afterEsc at hr
  rw [hv] at hR hr
  rw [he] at hR hr
  have hlen : es'.length + (m.tk f g).r0 ≤ (m.tk f g).r1 := by
    show es'.length + m.r0 ≤ m.r1 + (tok f g m.rest).1
    omega
  unfold TakeX
  cases ok
  · rw [if_neg (by simp)] at hR hr ⊢
    obtain ⟨v1, v3, rfl, hE⟩ := hR
    exact ⟨E', es', v1, v3, rfl, hE, hr, hs, hlen⟩
  · rw [if_pos rfl] at hR hr ⊢
    obtain ⟨v1, rfl, hb, hl⟩ := hR
    exact ⟨E', es', v1, rfl, hb, hl, hr, hs, hl1, hlen⟩

theorem said_head (m : MSt) (f : Nat → Bool) (g : Nat → Int) (sk : Bool) (x : UInt8) (h : (tok f g m.rest).1 ≠ 0) (hx : x.toNat ≠ 92) (hg : ∀ c, c < 256 → 0 ≤ g c ∧ g c < 256 ∧ g c ≠ (x.toNat : Int)) : (m.said f g sk).head? = some x ↔ (tok f g m.rest).2.head? = some x := by
  unfold MSt.said
  split
  · rw [tok_head f g m.rest h x hx hg]
    generalize (tok f g m.rest).1 = n at h
    cases hr : m.rest with
    | nil => simp
    | cons c t =>
      cases n with
      | zero => exact absurd rfl h
      | succ n => simp
  · exact Iff.rfl

theorem fault_code {w0 : World} {st : ByteArray} {B D T E : Nat} {sk : Bool} {m : MSt} {es : List UInt8} (h : Rep (w0.alloc (.cells #[.string st] 169)) B D T E sk (m.d es)) (hk : m.Ok) (off : Nat) (ho : m.r0 + off ≤ m.r1) (offv : Int) (hoff : offv = off) (Y : Nat) (hY : B ≤ Y) (hYe : Y = w0.heap.size := by rfl) :
    Calls Tryz.prog 57 #[.pointer (some ⟨D, 0, none⟩), .int .i64 offv, .iface 167 (.pointer (some ⟨Y, 0, none⟩))] (w0.alloc (.cells #[.string st] 169)) (DP B D T E sk (w0.alloc (.cells #[.string st] 169)) (m.broke.d es) (ErrIs B (m.flt off))) :=
  syntaxErr_any h hk off ho offv hoff Y ⟨hY, st, by rw [hYe]; exact heap_alloc_new w0 _⟩

theorem Rep.bSize {w : World} {B D T E : Nat} {sk : Bool} {s : DSt} (h : Rep w B D T E sk s) : B ≤ w.heap.size := by
  have := h.lt; have := h.bD; omega

theorem BytesIs.setD {w : World} {b o n c D i : Nat} {l : List UInt8} {x : Value} (h : BytesIs w (.slice (some ⟨b, o, none⟩) n c) l) (hb : b ≠ D) : BytesIs (w.setCell ⟨D, i, none⟩ x) (.slice (some ⟨b, o, none⟩) n c) l :=
  h.keep (by simp [World.setCell]) fun k hk => heap_setCell_other _ _ k _ (by simp [Value.ownBlock] at hk; subst hk; exact hb)

theorem fault_end {w wx w7 : World} {B D T E E4 E7 : Nat} {sk : Bool} {s : DSt} (HS : Stw 0 D E w E4 wx) (hDE : D ≠ E) (HR : Rep wx B D T E4 sk s) {o : Obj} (st : Stp D E4 (wx.alloc o) E7 w7) : Stw 0 D E w E7 w7 :=
  HS.trans ((Stw.alloc HR o).trans (st.weak 0 (HR.alloc o).lt.2.2.1 HR.DE) (Nat.le_refl _) HR.DE) (Nat.le_refl _) hDE

set_option maxHeartbeats 1000000 in
/-- advanceToSection where the section has come, or is gone by. -/
theorem to_any {w : World} {B D T E : Nat} {sk : Bool} {m : MSt} {es : List UInt8} (h : Rep w B D T E sk (m.d es)) (k : Nat) (hk : k ≤ m.sec) (kv : Int) (hkv : kv = k) :
    Calls Tryz.prog 50 #[.pointer (some ⟨D, 0, none⟩), .int .u8 kv] w fun e w' => e = .returned (.tuple #[.bool (m.sec == k), .nilIface]) ∧ w' = w := by
  subst hkv
  obtain ⟨C, ec, q1, q2, q3, q4, c0, c1, c2, c3, c4, c5, c6, c7, c8, c9, fz, ho⟩ := h.cells
  have h5 := h.sec5
  simp only [MSt.d] at h5 c5
  clear c0 c1 c2 c3 c4 c6 c7 c8 c9 fz ho q1 q2 q3 q4 h
  by_cases he : m.sec = k
  · have e1 : ((m.sec : Int) == (k : Int)) = true := by rw [beq_iff_eq]; omega
    have e2 : (m.sec == k) = true := by rw [beq_iff_eq]; exact he
    rw [e2]
    clear he e2
    go_enter Tryz.func50, Tryz.ntmps50
    go_wp2
    go_ret2
    exact ⟨rfl, rfl⟩
  · have e1 : ((m.sec : Int) == (k : Int)) = false := by rw [beq_eq_false_iff_ne]; omega
    have e2 : (m.sec == k) = false := by rw [beq_eq_false_iff_ne]; exact he
    have e3 : (k : Int) < (m.sec : Int) := by omega
    rw [e2]
    clear he e2
    go_enter Tryz.func50, Tryz.ntmps50
    go_wp2
    go_ret2
    exact ⟨rfl, rfl⟩

/-- Measurement's result. -/
def MeasR (B : Nat) (o : Option Flt) (w : World) (v : Value) : Prop :=
  match o with
  | none => ∃ l v1, BytesIs w v1 l ∧ v = .tuple #[v1, .nilIface]
  | some f => ∃ v2, ErrIs B f w v2 ∧ v = .tuple #[.slice none 0 0, v2]

theorem head_at (l : List UInt8) (h : 0 < l.length) (x : UInt8) : l.head? = some x ↔ l[0] = x := by
  cases l with
  | nil => simp at h
  | cons c t => simp

set_option maxHeartbeats 4000000 in
theorem meas_code {w : World} {B D T E : Nat} {sk : Bool} {m : MSt} {es : List UInt8} (h : Rep w B D T E sk (m.d es)) (hk : m.Ok) (h0 : m.sec = 0) :
    Calls Tryz.prog 29 #[.pointer (some ⟨D, 0, none⟩)] w (DX B D T E sk w (mMeas m).1 (MeasR B (mMeas m).2)) := by
  have H := hid h; clear h
  have HK := hid hk; clear hk
  have hDE := H.out.DE
  have h00 : 0 ≤ m.sec := by omega
  have hs0 : (m.sec == 0) = true := by rw [h0]; rfl
  have H0 := hid h0; clear h0
  have hto := to_any H.out 0 h00 0 rfl
  rw [hs0] at hto
  have HTO := hid hto; clear hto hs0 h00
  go_enter Tryz.func29, Tryz.ntmps29
  go_wp2_with fail
  refine HTO.out.mono ?_; rintro e w1 ⟨rfl, rfl⟩
  clear HTO
  go_wp2_with fail
  refine (reset_any H.out).mono ?_; rintro e w1 ⟨E1, v, rfl, rfl, h1, st1⟩
  rw [d_reset] at h1
  obtain rfl : E1 = E := st1.esc
  have H1 := hid h1; clear h1
  have HS1 := hid st1; clear st1
  obtain ⟨a, ha⟩ : ∃ a, m.reset = a := ⟨_, rfl⟩
  have hok1 : a.Ok := by rw [← ha]; exact (adv_reset m).ok HK.out
  have HOK1 := hid hok1; clear hok1
  have HA := hid ha
  rw [ha] at H1
  clear ha
  go_wp2_with fail
  refine (meas_any _).mono ?_; rintro e w2 ⟨S, rfl, hS, hb2, hS2⟩
  have h2 := H1.out.below hb2
  have st2 := HS1.out.below hb2
  have hlt1 := H1.out.lt
  have hSD : D < S := by omega
  have hSE : E1 < S := by omega
  clear hS2
  have H2 := hid h2; clear h2
  have HS2 := hid st2; clear st2 hb2
  have HSET := hid hS; clear hS
  clear hlt1
  go_wp2_with fail
  refine (measE_any _).mono ?_; rintro e w3 ⟨X, rfl, hX, hb3, hX3⟩
  have h3 := H2.out.below hb3
  have st3 := HS2.out.below hb3
  have hlt2 := H2.out.lt
  have hset3 := HSET.out.grow hb3
  have hXD : D < X := by omega
  have hXE : E1 < X := by omega
  clear hX3
  have H3 := hid h3; clear h3
  have HS3 := hid st3; clear st3 hb3
  have HSET3 := hid hset3; clear hset3
  have HESC := hid hX; clear hX
  clear hlt2
  obtain ⟨ok, hok⟩ : ∃ ok, Lib.validD (tok measP measE a.rest).2 = ok := ⟨_, rfl⟩
  have htake := take_code H3.out (by have := H3.out.le0; show 0 + a.r0 ≤ a.r1; simp only [MSt.d] at this; omega) HOK1.out HSET3.out HESC.out hSD hSE hXD hXE measE_ok ok hok
  have HTK := hid htake; clear htake
  have HOKV := hid hok; clear hok
  obtain ⟨b, hb⟩ : ∃ b, a.tk measP measE = b := ⟨_, rfl⟩
  have hokb : b.Ok := by rw [← hb]; exact (adv_tk a measP measE).ok HOK1.out
  have HOKB := hid hokb; clear hokb
  have HBB := hid hb; clear hb
  have hmm : mMeas m = if Lib.validD (tok measP measE a.rest).2 = false ∨ (tok measP measE a.rest).1 = 0 ∨ (tok measP measE a.rest).2.head? = some 35 then (b.broke, some (b.flt a.off)) else match mComma b with | (c, some f) => (c, some f) | (c, none) => (c.to 1, none) := by
    unfold mMeas
    rw [HA.out]
    simp only [HBB.out]
    rfl
  have HMM := hid hmm; clear hmm
  cases ok
  · go_wp2_with fail
    refine HTK.out.mono ?_; rintro e w4 ht; obtain ⟨E4, es4, v1, v3, rfl, hE, h4, st4, hl4⟩ := ht.bad
    rw [HBB.out] at h4 hl4 hE
    have H4 := hid h4; clear h4
    have HS4 := hid (((HS3.out.weak 0 H.out.lt.2.2.1 hDE).trans st4 (Nat.zero_le _) hDE)); clear st4 ht
    have HE := hid hE
    obtain ⟨XE, YE, rfl, hx1, hx2, hx3⟩ := hE
    clear hx1 hx2 hx3
    go_wp2_with fail
    go_ret2
    have e1 : mMeas m = (b.broke, some (b.flt a.off)) := by rw [HMM.out, if_pos (.inl HOKV.out)]
    rw [e1]
    exact ⟨E4, es4, _, rfl, ⟨_, HE.out, rfl⟩, H4.out, HS4.out, hl4⟩
  · have hl := said_none a measP measE sk
    obtain ⟨n, hn⟩ : ∃ n, (a.said measP measE sk).length = n := ⟨_, rfl⟩
    rw [hn] at hl
    have HL := hid hl; clear hl
    have HN := hid hn; clear hn
    go_wp2_with fail
    refine HTK.out.mono ?_; rintro e w4 ht; obtain ⟨E4, es4, v1, rfl, hbs, hL4, h4, st4, hl4, hl5⟩ := ht.good
    rw [HBB.out] at h4 hl5
    have H4 := hid h4; clear h4
    have HS4 := hid (((HS3.out.weak 0 H.out.lt.2.2.1 hDE).trans st4 (Nat.zero_le _) hDE)); clear st4 ht
    have HBS := hid hbs
    obtain ⟨b4, o4, c4, rfl, hb41, hb42, hb43, hb44⟩ := hbs
    rw [HN.out] at hb41 ⊢
    have hbD : b4 ≠ D := by
      obtain ⟨b', o', k', c', he', hl'⟩ := hL4
      simp only [Value.slice.injEq, Option.some.injEq, Addr.mk.injEq] at he'
      have h1 := H4.out.DT
      have h2 := H4.out.DE
      rcases hl' with hl' | hl' <;> omega
    have HB44 := hid hb44; clear hb44 hL4
    by_cases hn0 : n = 0
    · subst hn0
      have ht0 : (tok measP measE a.rest).1 = 0 := HL.out.1 rfl
      have e1 : mMeas m = (b.broke, some (b.flt a.off)) := by rw [HMM.out, if_pos (.inr (.inl ht0))]
      have HE1 := hid e1
      clear ht0 e1
      have hoff : b.r0 + a.off ≤ b.r1 := by
        have := H3.out.le0
        rw [← HBB.out]
        simp only [MSt.d] at this
        show a.r0 + (a.r1 - a.r0) ≤ a.r1 + _
        omega
      have hoff2 : (a.r1 : Int) - (a.r0 : Int) = (a.off : Int) := by
        have := H3.out.le0
        simp only [MSt.d] at this
        unfold MSt.off; omega
      have HO := hid hoff; clear hoff
      have HO2 := hid hoff2; clear hoff2
      go_wp2_with fail
      refine (has_code H4.out 1 rfl).mono ?_; rintro e w5 ⟨rfl, n5, rfl⟩
      cases b.has 1
      all_goals
        go_wp2_with fail
        refine (errorsNew_any _ _).mono ?_; rintro e w6 ⟨rfl, rfl⟩
        go_wp2_with fail
        refine (fault_code ((H4.out.drewN n5).alloc _) HOKB.out a.off HO.out _ HO2.out _ H4.out.bSize).mono ?_
        rintro e w7 ⟨E7, v, rfl, hE, h7, st7⟩
        have HE := hid hE
        obtain ⟨XE, YE, rfl, hx1, hx2, hx3⟩ := hE
        clear hx1 hx2 hx3
        have H7 := hid h7; clear h7
        have HS7 := hid st7; clear st7
        go_wp2_with fail
        go_ret2
        rw [HE1.out]
        exact ⟨E7, es4, _, rfl, ⟨_, HE.out, rfl⟩, H7.out, fault_end (HS4.out.drewN n5) hDE (H4.out.drewN n5) HS7.out, hl5⟩
    · have ht1 : (tok measP measE a.rest).1 ≠ 0 := fun e => hn0 (HL.out.2 e)
      have hn1 : 0 < n := by omega
      have hhd := said_head a measP measE sk 35 ht1 (by decide) (by intro c _; show 0 ≤ measE c ∧ measE c < 256 ∧ measE c ≠ 35; unfold measE; split <;> omega)
      have hnl : 0 < (a.said measP measE sk).length := by rw [HN.out]; exact hn1
      rw [head_at _ hnl] at hhd
      have hcell := HB44.out 0 (by omega)
      rw [Nat.add_zero] at hcell
      generalize (a.said measP measE sk)[0] = x at hhd hcell
      have HHD := hid hhd; clear hhd
      have HT1 := hid ht1; clear ht1
      clear hn0 hnl
      by_cases hx : x = 35
      · have hx35 : (x.toNat : Int) = 35 := by rw [hx]; rfl
        rw [hx35] at hcell
        have e1 : mMeas m = (b.broke, some (b.flt a.off)) := by rw [HMM.out, if_pos (.inr (.inr (HHD.out.1 hx)))]
        have HE1 := hid e1
        clear e1 hx hx35
        have hoff : b.r0 + a.off ≤ b.r1 := by
          have := H3.out.le0
          rw [← HBB.out]
          simp only [MSt.d] at this
          show a.r0 + (a.r1 - a.r0) ≤ a.r1 + _
          omega
        have hoff2 : (a.r1 : Int) - (a.r0 : Int) = (a.off : Int) := by
          have := H3.out.le0
          simp only [MSt.d] at this
          unfold MSt.off; omega
        have HO := hid hoff; clear hoff
        have HO2 := hid hoff2; clear hoff2
        go_wp2_with fail
        refine (errorsNew_any _ _).mono ?_; rintro e w6 ⟨rfl, rfl⟩
        go_wp2_with fail
        refine (fault_code (H4.out.alloc _) HOKB.out a.off HO.out _ HO2.out _ H4.out.bSize).mono ?_
        rintro e w7 ⟨E7, v, rfl, hE, h7, st7⟩
        have HE := hid hE
        obtain ⟨XE, YE, rfl, hx1, hx2, hx3⟩ := hE
        clear hx1 hx2 hx3
        have H7 := hid h7; clear h7
        have HS7 := hid st7; clear st7
        go_wp2_with fail
        go_ret2
        rw [HE1.out]
        exact ⟨E7, es4, _, rfl, ⟨_, HE.out, rfl⟩, H7.out, fault_end HS4.out hDE H4.out HS7.out, hl5⟩
      · have hxn : ((x.toNat : Int) == 35) = false := by
          rw [← Bool.not_eq_true]; exact fun e => hx ((u8_eq _ 35 (by omega)).1 e)
        have hmc : ¬ (Lib.validD (tok measP measE a.rest).2 = false ∨ (tok measP measE a.rest).1 = 0 ∨ (tok measP measE a.rest).2.head? = some 35) := by
          rintro (h1 | h1 | h1)
          · rw [HOKV.out] at h1; simp at h1
          · exact HT1.out h1
          · exact hx (HHD.out.2 h1)
        have hm2 := HMM.out
        rw [if_neg hmc] at hm2
        have HM2 := hid hm2; clear hm2 hmc hx
        go_wp2_with fail
        refine (comma_any H4.out HOKB.out).mono ?_
        rintro e w5 ⟨E5, v, rfl, hF, h5, st5⟩
        obtain rfl : E5 = E4 := st5.esc
        have hadv := adv_comma b
        have hkeep : (mComma b).1.r0 = b.r0 := by
          unfold mComma
          split
          · split <;> rfl
          · rfl
        have hr1 : b.r1 ≤ (mComma b).1.r1 := by
          unfold mComma
          split
          · split
            · show b.r1 ≤ b.r1 + 1; omega
            · show b.r1 ≤ b.r1 + 1; omega
          · exact Nat.le_refl _
        rcases hc : mComma b with ⟨c, _ | f⟩
        · rw [hc] at hF h5 hkeep hr1
          simp only [FltIs] at hF
          subst hF
          have HS5 := hid (HS4.out.trans (st5.weak 0 H4.out.lt.2.2.1 H4.out.DE) (Nat.le_refl _) hDE)
          have H5 := hid h5; clear h5
          have e1 : mMeas m = (c.to 1, none) := by rw [HM2.out, hc]
          have HE1 := hid e1
          obtain ⟨C, ec, q1, q2, q3, q4, c0, c1, c2, c3, c4', c5, c6, c7, c8, c9, fz, ho⟩ := H5.out.cells
          have hf5 := fz 5
          have HBS5 := hid (HBS.out.keep st5.size fun k hk => st5.block k (by
            simp [Value.ownBlock] at hk; subst hk; exact hb43) (by
            simp [Value.ownBlock] at hk; subst hk; exact hbD))
          clear st5 hc e1 c0 c1 c2 c3 c4' c6 c7 c8 c9 fz ho hadv
          go_wp2_with fail
          go_ret2
          rw [HE1.out]
          refine ⟨E5, es4, _, rfl, ⟨_, _, HBS5.out.setD hbD, by rw [HN.out]; rfl⟩, ?_, ?_, ?_⟩
          · exact H5.out.setSec 1 (by omega)
          · exact HS5.out.setD hDE _ _
          · show es4.length + c.r0 ≤ c.r1
            omega
        · rw [hc] at hF h5 hkeep hr1
          simp only [FltIs] at hF
          have HS5 := hid (HS4.out.trans (st5.weak 0 H4.out.lt.2.2.1 H4.out.DE) (Nat.le_refl _) hDE)
          have H5 := hid h5; clear h5
          have e1 : mMeas m = (c, some f) := by rw [HM2.out, hc]
          have HE1 := hid e1
          have HE := hid hF
          obtain ⟨XE, YE, rfl, hx1, hx2, hx3⟩ := hF
          clear hx1 hx2 hx3 st5 hc e1 hadv
          go_wp2_with fail
          go_ret2
          rw [HE1.out]
          refine ⟨E5, es4, _, rfl, ⟨_, HE.out, rfl⟩, H5.out, HS5.out, ?_⟩
          show es4.length + c.r0 ≤ c.r1
          omega
end Go.Proofs.YtejlokdcocacaaaGreatDoor
