/- The decoder beside blocks of the caller's own. -/
import Derived.Test.YtejlokdcocacaaaGreatDoorKSect
import Derived.Test.YtejlokdcocacaaaGreatDoorKFault
import Derived.Test.YtejlokdcocacaaaGreatDoorKStart
namespace Go.Proofs.YtejlokdcocacaaaGreatDoor
open Go.RowKit

/-- The decoder in the plain state m, since the world w0. -/
structure Dc (B D T E0 : Nat) (w0 : World) (m : MSt) (E : Nat) (w : World) : Prop where
  ex : ∃ es, Rep w B D T E false (m.d es) ∧ es.length + m.r0 ≤ m.r1
  st : Stw 0 D E0 w0 E w
  ok : m.Ok
  dlt : D < w0.heap.size
  tlt : T < w0.heap.size
  b4 : 3 < B
  bd : B ≤ D
  de0 : D ≠ E0
  be0 : B ≤ E0

section
variable {B D T E0 E : Nat} {w0 w : World} {m : MSt}

theorem Dc.start {es : List UInt8} (h : Rep w B D T E false (m.d es)) (hes : es.length + m.r0 ≤ m.r1) (hk : m.Ok) : Dc B D T E w m E w :=
  ⟨⟨es, h, hes⟩, (Stp.refl D E w).weak 0 h.lt.2.2.1 h.DE, hk, h.lt.1, h.lt.2.1, h.B3, h.bD, h.DE, h.lt.2.2.2⟩

theorem Dc.de (h : Dc B D T E0 w0 m E w) : D ≠ E := by obtain ⟨es, hr, _⟩ := h.ex; exact hr.DE

theorem Dc.keep (h : Dc B D T E0 w0 m E w) {w' : World} (ho : w'.os = w.os) (ht : w'.tape = w.tape) (hp : w'.output = w.output) (hs : w.heap.size ≤ w'.heap.size)
    (hk : ∀ k, k < w.heap.size → k < w0.heap.size ∨ k = E → w'.heap[k]? = w.heap[k]?) : Dc B D T E0 w0 m E w' := by
  obtain ⟨es, hr, he⟩ := h.ex
  have hl := hr.lt
  have hb4 := h.b4
  have hbd := h.bd
  have hdl := h.dlt
  have htl := h.tlt
  have hsz := h.st.size
  refine ⟨⟨es, ?_, he⟩, ⟨ho.trans h.st.os, ht.trans h.st.tape, hp.trans h.st.output, Nat.le_trans hsz hs, fun k h1 h2 h3 => (hk k (by omega) (.inl h1)).trans (h.st.block k h1 h2 h3), h.st.esc, h.st.inE, fun i hi => absurd hi (by omega)⟩, h.ok, hdl, htl, hb4, hbd, h.de0, h.be0⟩
  obtain ⟨C, ec, hC, hC2, hd, h1, hob⟩ := hr.dec
  obtain ⟨tc, fr, htx, htt⟩ := hr.text
  have k2 := hk 2 (by omega) (.inl (by omega))
  have k3 := hk 3 (by omega) (.inl (by omega))
  have kD := hk D hl.1 (.inl hdl)
  have kT := hk T hl.2.1 (.inl htl)
  have kE := hk E hl.2.2.1 (.inr rfl)
  refine ⟨hr.B3, hr.tabs.keep k2 k3, hr.bD, hr.bT, hr.DT, hr.DE, hr.TE, ⟨C, ec, hC, hC2, ?_, h1, ?_⟩, ⟨tc, fr, by rw [kT]; exact htx, htt⟩, hr.le1, hr.small, hr.sec5, hr.le0, hr.esc1, hr.line0, hr.line1⟩
  · unfold IsDec; rw [kD]; exact hd
  · rcases hob with ⟨hv, _⟩ | ⟨g, cap, cur, hv, hb, hg, r⟩
    · cases hv
    · cases hv; exact .inr ⟨E, ec, cur, rfl, hb, by rw [kE]; exact hg, r⟩

theorem Dc.below (h : Dc B D T E0 w0 m E w) {w' : World} (k : Below w.heap.size w w') : Dc B D T E0 w0 m E w' := h.keep k.os k.tape k.output k.size fun i hi _ => k.block i hi
theorem Dc.alloc (h : Dc B D T E0 w0 m E w) (o : Obj) : Dc B D T E0 w0 m E (w.alloc o) := h.below ((Below.refl _ _).alloc (Nat.le_refl _) o)
theorem Dc.drewN (h : Dc B D T E0 w0 m E w) (n : Nat) : Dc B D T E0 w0 m E (w.drewN n) := h.keep rfl rfl rfl (Nat.le_refl _) fun _ _ _ => rfl
theorem Dc.setNew (h : Dc B D T E0 w0 m E w) {p : Addr} (hp : w0.heap.size ≤ p.block) (hE : p.block ≠ E) (v : Value) : Dc B D T E0 w0 m E (w.setCell p v) :=
  h.keep rfl rfl rfl (by simp [World.setCell]) fun k _ h2 => heap_setCell_other w p k v (by rcases h2 with h2 | h2 <;> omega)
theorem Dc.setRow (h : Dc B D T E0 w0 m E w) {g : Nat} (hp : w0.heap.size ≤ g) (hE : g ≠ E) (cs : Array Value) : Dc B D T E0 w0 m E (w.setRow g cs) :=
  h.keep (setRow_os _ _ _) (setRow_tape _ _ _) (setRow_output _ _ _) (by simp) fun k _ h2 => setRow_other w g k cs (by rcases h2 with h2 | h2 <;> omega)

/-- What a method leaves, since the world w0. -/
theorem Dc.call (h : Dc B D T E0 w0 m E w) {m' : MSt} (hk : m'.Ok) {R : World → Value → Prop} {e : Ending} {w' : World} (k : DX B D T E false w m' R e w') :
    ∃ E' v, e = .returned v ∧ R w' v ∧ Dc B D T E0 w0 m' E' w' ∧ (∀ g, g < w.heap.size → g ≠ D → g ≠ E → w'.heap[g]? = w.heap[g]? ∧ g ≠ E') ∧ w.heap.size ≤ w'.heap.size := by
  obtain ⟨E', es, v, rfl, hR, hr, st, hl⟩ := k
  exact ⟨E', v, rfl, hR, ⟨⟨es, hr, hl⟩, h.st.trans st (Nat.le_refl _) h.de0, hk, h.dlt, h.tlt, h.b4, h.bd, h.de0, h.be0⟩, fun g h1 h2 h3 => ⟨st.block g h1 h2 h3, by rcases st.esc with e | e <;> omega⟩, st.size⟩

theorem Dc.dx (h : Dc B D T E0 w0 m E w) {R : World → Value → Prop} {v : Value} (hR : R w v) : DX B D T E0 false w0 m R (.returned v) w := by
  obtain ⟨es, hr, he⟩ := h.ex
  exact ⟨E, es, v, rfl, hR, hr, h.st, he⟩

theorem Dc.glob (h : Dc B D T E0 w0 m E w) (hg : Glob B w0) : Glob B w := by
  obtain ⟨g, c, t, h1, h2, h3⟩ := hg
  have hb4 := h.b4
  have hk := h.st.toBelow h.bd h.be0 (by have := h.bd; have := h.dlt; omega)
  exact ⟨g, c, t, (World.cell?_of_block (w := w0) (a := ⟨1, 0, none⟩) (hk.block 1 (by omega))).trans h1, h2, (hk.block g.block h2).trans h3⟩

theorem Dc.time (h : Dc B D T E0 w0 m E w) : Calls Tryz.prog 35 #[.pointer (some ⟨D, 0, none⟩)] w (DX B D T E false w (timeOf (toK 3 m).2 (toK 3 m).1).1 (TimeIs B D (timeOf (toK 3 m).2 (toK 3 m).1).2)) := by
  obtain ⟨es, hr, he⟩ := h.ex
  exact time_full hr he h.ok
theorem Dc.field (h : Dc B D T E0 w0 m E w) : Calls Tryz.prog 34 #[.pointer (some ⟨D, 0, none⟩)] w (DX B D T E false w (fieldOf (toK 2 m).2 (toK 2 m).1).1 (FieldIs B false (fieldOf (toK 2 m).2 (toK 2 m).1).2)) := by
  obtain ⟨es, hr, he⟩ := h.ex
  exact field_full hr he h.ok
theorem Dc.next (h : Dc B D T E0 w0 m E w) : Calls Tryz.prog 24 #[.pointer (some ⟨D, 0, none⟩)] w (DX B D T E false w (mNx m) (fun _ v => v = .bool ((mNx m).has 1))) := by
  obtain ⟨es, hr, he⟩ := h.ex
  exact next_code hr he h.ok
end

theorem adv_timeOf (m : MSt) : Adv m (timeOf (toK 3 m).2 (toK 3 m).1).1 := by
  have h := adv_toK 3 (by omega) m
  unfold timeOf
  split
  · exact h
  · exact h.trans (adv_time _)
theorem adv_fieldOf (m : MSt) : Adv m (fieldOf (toK 2 m).2 (toK 2 m).1).1 := by
  have h := adv_toK 2 (by omega) m
  unfold fieldOf
  split
  · exact h
  · exact h.trans (adv_field _)
theorem adv_mEnd (m : MSt) : Adv m (mEnd m) := by
  unfold mEnd
  split
  · exact adv_to5 m
  · exact (adv_to5 m).trans (adv_to5 _)
theorem skipStep_adv (s : MSt) : (∀ s', skipStep s = .inl s' → Adv s s' ∧ s'.left < s.left) ∧ (∀ b, skipStep s = .inr b → Adv s b) := by
  have h1 := adv_skip s blankP
  unfold skipStep
  simp only
  split
  · rename_i h35
    have hh : (s.skip blankP).has 1 = true := at0_has (by rw [h35]; decide)
    have hr := run_some (f := commentP) hh (by rw [h35]; decide)
    have hb : ((s.skip blankP).skip commentP).left < (s.skip blankP).left := by
      have hl := has_left hh
      show (s.skip blankP).t.length - ((s.skip blankP).r1 + _) < (s.skip blankP).t.length - (s.skip blankP).r1
      omega
    have h2 := adv_skip (s.skip blankP) commentP
    have h3 := adv_eol ((s.skip blankP).skip commentP)
    split
    · refine ⟨fun s' e => ?_, fun b e => by simp at e⟩
      simp only [Sum.inl.injEq] at e
      subst e
      exact ⟨(h1.trans h2).trans h3, by have := h1.left; have := h3.left; omega⟩
    · rename_i he
      refine ⟨fun s' e => by simp at e, fun b e => ?_⟩
      simp only [Sum.inr.injEq] at e
      subst e
      have hn := eol_no _ (by simpa using he)
      rw [hn]
      refine ⟨?_, Int.le_refl _, ?_⟩
      · show s.t.length - (s.r0 + s.off) ≤ s.t.length - s.r1
        unfold MSt.off; omega
      · show s.line + ((s.t.length - (s.r0 + s.off) : Nat) : Int) ≤ s.line + ((s.t.length - s.r1 : Nat) : Int)
        unfold MSt.off; omega
  split
  · rename_i h10
    have h2 := adv_line_nl (s.skip blankP) h10
    refine ⟨fun s' e => ?_, fun b e => by simp at e⟩
    simp only [Sum.inl.injEq] at e
    subst e
    exact ⟨h1.trans h2.1, Nat.lt_of_lt_of_le h2.2 h1.left⟩
  split
  · rename_i h13
    have h3 := adv_eol (s.skip blankP)
    split
    · rename_i he
      refine ⟨fun s' e => ?_, fun b e => by simp at e⟩
      simp only [Sum.inl.injEq] at e
      subst e
      exact ⟨h1.trans h3, by have := h1.left; have := eol_less _ h13 he; omega⟩
    · refine ⟨fun s' e => by simp at e, fun b e => ?_⟩
      simp only [Sum.inr.injEq] at e
      subst e
      exact h1.trans h3
  · refine ⟨fun s' e => by simp at e, fun b e => ?_⟩
    simp only [Sum.inr.injEq] at e
    subst e
    exact h1
theorem adv_mSkip (m : MSt) : Adv m (mSkip m) := by
  unfold mSkip
  exact iterR_has MSt.left (fun s s' h => ((skipStep_adv s).1 s' h).2) (fun s => Adv m s) (fun b => Adv m b) (fun s s' hs he => hs.trans ((skipStep_adv s).1 s' he).1) (fun s b hs he => hs.trans ((skipStep_adv s).2 b he)) m (Adv.refl m)
theorem adv_mNx (m : MSt) : Adv m (mNx m) := ((adv_mEnd m).trans (adv_mSkip _)).trans (adv_to _ _)
end Go.Proofs.YtejlokdcocacaaaGreatDoor

/- What the decoder's model tells of the text 'm f=1 N', LF, 'm f=1', LF: the bytes N as the first time, none as the second. No program here. -/
namespace Go.Proofs.YtejlokdcocacaaaGreatDoor
open Go.RowKit

section
variable {m : MSt} {R : List UInt8} {c : UInt8}

theorem left_has {n : Nat} (hn : 1 ≤ n) : m.has n = decide (n ≤ m.rest.length) := by
  rw [rest_length]
  unfold MSt.has MSt.left
  rw [decide_eq_decide]
  omega
theorem has_cons (h : m.rest = c :: R) : m.has 1 = true := by
  rw [left_has (Nat.le_refl _), h]; simp
theorem has_nil (h : m.rest = []) : m.has 1 = false := by
  rw [left_has (Nat.le_refl _), h]; simp
theorem at0_cons (h : m.rest = c :: R) : m.at0 = c := by
  unfold MSt.rest at h
  unfold MSt.at0
  have h2 : (m.t.drop m.r1)[0]? = some c := by rw [h]; rfl
  rw [List.getElem?_drop] at h2
  rw [List.getD_eq_getElem?_getD, h2]; rfl
theorem adv_rest (n : Nat) : (m.adv n).rest = m.rest.drop n := by
  unfold MSt.rest MSt.adv
  rw [List.drop_drop]
theorem skip_rest (f : Nat → Bool) : (m.skip f).rest = m.rest.dropWhile fun c => f c.toNat := by
  unfold MSt.skip MSt.run
  rw [adv_rest]
  have := List.takeWhile_append_dropWhile (p := fun c : UInt8 => f c.toNat) (l := m.rest)
  conv => lhs; arg 2; rw [← this]
  rw [List.drop_left]
theorem ran_rest (f : Nat → Bool) : m.ran f = m.rest.takeWhile fun c => f c.toNat := by
  unfold MSt.ran MSt.run
  rw [List.drop_take]
  show (m.rest.take _) = _
  rw [Nat.add_sub_cancel_left]
  have := List.takeWhile_append_dropWhile (p := fun c : UInt8 => f c.toNat) (l := m.rest)
  conv => lhs; arg 2; rw [← this]
  rw [List.take_left]
theorem tk_rest (f : Nat → Bool) (g : Nat → Int) : (m.tk f g).rest = m.rest.drop (tok f g m.rest).1 := by
  show m.t.drop (m.r1 + (tok f g m.rest).1) = _
  unfold MSt.rest
  rw [List.drop_drop]
theorem to_rest (n : Nat) : (m.to n).rest = m.rest := rfl
theorem reset_rest : m.reset.rest = m.rest := by
  unfold MSt.reset
  split
  · rename_i h
    have e : m.t.drop m.r1 = [] := List.drop_eq_nil_of_le (by omega)
    show ([] : List UInt8).drop 0 = m.t.drop m.r1
    rw [e]; rfl
  · rfl
theorem eol_lf (h : m.rest = 10 :: R) : m.eol.1 = true ∧ m.eol.2.rest = R ∧ m.eol.2.sec = m.sec := by
  have e1 := has_cons h
  have e2 := at0_cons h
  unfold MSt.eol
  rw [if_neg (by rw [e1]; simp), if_pos e2]
  refine ⟨rfl, ?_, rfl⟩
  show m.t.drop (m.r1 + 1) = R
  have h3 : (m.adv 1).rest = R := by rw [adv_rest, h]; rfl
  exact h3
theorem eol_other (h : m.rest = c :: R) (h1 : c ≠ 10) (h2 : c ≠ 13) : m.eol.1 = false := by
  have e1 := has_cons h
  have e2 := at0_cons h
  unfold MSt.eol
  rw [if_neg (by rw [e1]; simp), if_neg (by rw [e2]; exact h1), if_neg (by rw [e2]; exact h2)]
end

theorem skip_none {m : MSt} {f : Nat → Bool} {c : UInt8} {R : List UInt8} (h : m.rest = c :: R) (hf : f c.toNat = false) : m.skip f = m := by
  unfold MSt.skip MSt.run
  rw [h, List.takeWhile_cons_of_neg (by simp [hf])]
  rfl

theorem meas_m {m : MSt} {R : List UInt8} (h : m.rest = 109 :: 32 :: R) : ∃ c, mMeas m = (c, none) ∧ c.rest = 32 :: R ∧ c.sec = 1 := by
  have hr : m.reset.rest = 109 :: 32 :: R := by rw [reset_rest, h]
  have ht : tok measP measE (109 :: 32 :: R) = (1, [109]) := by
    rw [tok_plain _ _ _ _ (by decide) (by decide), tok_stop _ _ _ _ (by decide) (by decide)]
  have hb : (m.reset.tk measP measE).rest = 32 :: R := by rw [tk_rest, hr, ht]; rfl
  have hv : Lib.validD [109] = true := by decide +kernel
  have hc : mComma (m.reset.tk measP measE) = (m.reset.tk measP measE, none) := by
    unfold mComma
    rw [if_neg (fun h => absurd (at0_cons hb ▸ h.2) (by decide))]
  refine ⟨(m.reset.tk measP measE).to 1, ?_, hb, rfl⟩
  unfold mMeas
  simp only [hr, ht, hv, hc]
  rw [if_neg (by decide)]

theorem tags_m {m : MSt} {c : UInt8} {R : List UInt8} (h : m.rest = 32 :: c :: R) (hc : c ≠ 32) (hs : m.sec = 1) : ∃ d, mTags m = (d, none) ∧ d.rest = c :: R ∧ d.sec = 2 := by
  have ht : mTag m = ((m.skip blankP).to 2, .none) := by
    unfold mTag
    rw [if_neg (by omega), if_pos ⟨has_cons h, by rw [at0_cons h]; decide⟩]
  refine ⟨(m.skip blankP).to 2, ?_, ?_, rfl⟩
  · unfold mTags
    refine iterR_done ?_
    unfold tagStep
    rw [ht]
  · rw [to_rest, skip_rest, h, List.dropWhile_cons_of_pos (by decide), List.dropWhile_cons_of_neg]
    simp only [blankP, beq_iff_eq]
    intro e
    exact hc (UInt8.toNat_inj.1 e)

/-- Up to a field's value: 'f=1'. -/
theorem field_m {m : MSt} {c : UInt8} {R : List UInt8} (h : m.rest = 102 :: 61 :: 49 :: c :: R) (hc : c.toNat = 32 ∨ c.toNat = 10) (hs : m.sec = 2) :
    ∃ d k, d.rest = c :: R ∧ d.sec = 2 ∧ mField m = (match mBehind d with | (e, some f) => (e, FieldR.err f) | (e, none) => (e, .some k)) := by
  have ht : tok fieldKeyP tagE (102 :: 61 :: 49 :: c :: R) = (1, [102]) := by
    rw [tok_plain _ _ _ _ (by decide) (by decide), tok_stop _ _ _ _ (by decide) (by decide)]
  have hb : (m.tk fieldKeyP tagE).rest = 61 :: 49 :: c :: R := by rw [tk_rest, h, ht]; rfl
  have hv : Lib.validD [102] = true := by decide +kernel
  have hcr : ((m.tk fieldKeyP tagE).adv 1).rest = 49 :: c :: R := by rw [adv_rest, hb]; rfl
  have hfv : fieldValP c.toNat = false := by rcases hc with e | e <;> rw [e] <;> decide
  have hd : (((m.tk fieldKeyP tagE).adv 1).skip fieldValP).rest = c :: R := by
    rw [skip_rest, hcr, List.dropWhile_cons_of_pos (by decide), List.dropWhile_cons_of_neg (by simp [hfv])]
  have hval : ∃ x, mVal ((m.tk fieldKeyP tagE).adv 1) = (((m.tk fieldKeyP tagE).adv 1).skip fieldValP, .inr x) := by
    unfold mVal
    rw [at0_cons hcr, if_neg (by decide), if_neg (by decide), if_pos (by decide)]
    exact ⟨_, rfl⟩
  obtain ⟨x, hx⟩ := hval
  refine ⟨_, ⟨[102], x.1, x.2⟩, hd, hs, ?_⟩
  unfold mField
  rw [if_neg (by omega)]
  simp only [h, ht, hv]
  rw [if_neg (by decide), if_neg (by rw [has_cons hb, at0_cons hb]; decide), if_neg (by rw [has_cons hcr]; decide), hx]
  rfl

theorem fields_time {m : MSt} {c : UInt8} {R : List UInt8} (h : m.rest = 102 :: 61 :: 49 :: 32 :: c :: R) (hc : timeCP c.toNat = true) (hs : m.sec = 2) : ∃ e, mFields m = (e, none) ∧ e.rest = c :: R ∧ e.sec = 3 := by
  obtain ⟨d, k, hd, hds, hf⟩ := field_m h (.inl (by decide)) hs
  have n1 : c.toNat ≠ 32 := by intro e; rw [e] at hc; exact absurd hc (by decide)
  have n2 : c ≠ 10 := by intro e; rw [e] at hc; exact absurd hc (by decide)
  have n3 : c ≠ 13 := by intro e; rw [e] at hc; exact absurd hc (by decide)
  have hk : (d.skip blankP).rest = c :: R := by
    rw [skip_rest, hd, List.dropWhile_cons_of_pos (by decide), List.dropWhile_cons_of_neg]
    simp only [blankP, beq_iff_eq]
    exact n1
  have he := eol_other hk n2 n3
  have he2 := eol_no _ he
  have hb : mBehind d = ((d.skip blankP).to 3, none) := by
    unfold mBehind
    rw [has_cons hd, at0_cons hd, if_neg (by decide), if_neg (by decide), if_neg (by decide), if_neg (by rw [he]; decide), he2]
  rw [hb] at hf
  have hf2 : mField ((d.skip blankP).to 3) = ((d.skip blankP).to 3, .none) := by
    unfold mField
    rw [if_pos (by show 3 ≠ 2; omega)]
  refine ⟨(d.skip blankP).to 3, ?_, hk, rfl⟩
  unfold mFields
  have h1 : fieldStep m = .inl ((d.skip blankP).to 3) := by unfold fieldStep; rw [hf]
  rw [iterR_more h1]
  refine iterR_done ?_
  unfold fieldStep
  rw [hf2]

theorem fields_end {m : MSt} {R : List UInt8} (h : m.rest = 102 :: 61 :: 49 :: 10 :: R) (hs : m.sec = 2) : ∃ e, mFields m = (e, none) ∧ e.rest = R ∧ e.sec = 5 := by
  obtain ⟨d, k, hd, hds, hf⟩ := field_m h (.inr (by decide)) hs
  have hk : d.skip blankP = d := skip_none hd (by decide)
  have he := eol_lf hd
  have hb : mBehind d = (d.eol.2.to 5, none) := by
    unfold mBehind
    rw [has_cons hd, at0_cons hd, hk, if_neg (by decide), if_neg (by decide), if_neg (by decide), if_pos he.1]
  rw [hb] at hf
  have hf2 : mField (d.eol.2.to 5) = (d.eol.2.to 5, .none) := by
    unfold mField
    rw [if_pos (by show 5 ≠ 2; omega)]
  refine ⟨d.eol.2.to 5, ?_, he.2.1, rfl⟩
  unfold mFields
  have h1 : fieldStep m = .inl (d.eol.2.to 5) := by unfold fieldStep; rw [hf]
  rw [iterR_more h1]
  refine iterR_done ?_
  unfold fieldStep
  rw [hf2]

theorem time_m {m : MSt} {l R : List UInt8} (h : m.rest = l ++ 10 :: R) (hl : l ≠ []) (hc : ∀ c ∈ l, timeCP c.toNat = true) (hs : m.sec = 3) : ∃ e, mTime m = (e, .ok l) ∧ e.rest = R ∧ e.sec = 5 := by
  have hn : (fun c : UInt8 => timeCP c.toNat) 10 = false := by decide
  have hran : m.ran timeCP = l := by
    rw [ran_rest, h, List.takeWhile_append_of_pos hc, List.takeWhile_cons_of_neg (by decide), List.append_nil]
  have hsk : (m.skip timeCP).rest = 10 :: R := by
    rw [skip_rest, h, List.dropWhile_append_of_pos hc, List.dropWhile_cons_of_neg (by decide)]
  have hb : (m.skip timeCP).skip blankP = m.skip timeCP := skip_none hsk (by decide)
  have he := eol_lf hsk
  refine ⟨(m.skip timeCP).eol.2.to 5, ?_, he.2.1, rfl⟩
  unfold mTime
  rw [if_neg (by omega)]
  simp only [hran, if_neg hl]
  rw [if_neg (by rw [has_cons hsk]; decide), if_neg (by rw [at0_cons hsk]; decide), hb, if_neg (by rw [has_cons hsk]; decide), if_pos he.1]

/-- An entry 'm f=1 N'. -/
theorem entry_time {m : MSt} {l R : List UInt8} (h : m.rest = 109 :: 32 :: 102 :: 61 :: 49 :: 32 :: (l ++ 10 :: R)) (hl : l ≠ []) (hc : ∀ c ∈ l, timeCP c.toNat = true) :
    ∃ e, mEntry m = (e, .ok l) ∧ e.rest = R ∧ e.sec = 5 := by
  obtain ⟨a, h1, ha, sa⟩ := meas_m h
  obtain ⟨b, h2, hb, sb⟩ := tags_m ha (by decide) sa
  obtain ⟨c, r, rfl⟩ := List.exists_cons_of_ne_nil hl
  obtain ⟨d, h3, hd, sd⟩ := fields_time (c := c) (R := r ++ 10 :: R) hb (hc c (by simp)) sb
  obtain ⟨e, h4, he, se⟩ := time_m (l := c :: r) hd hl hc sd
  refine ⟨e, ?_, he, se⟩
  unfold mEntry mAhead mHead
  rw [h1]; simp only
  rw [h2]; simp only
  rw [h3]; simp only
  exact h4

/-- An entry 'm f=1'. -/
theorem entry_none {m : MSt} {R : List UInt8} (h : m.rest = 109 :: 32 :: 102 :: 61 :: 49 :: 10 :: R) : ∃ e, mEntry m = (e, .ok []) ∧ e.rest = R ∧ e.sec = 5 := by
  obtain ⟨a, h1, ha, sa⟩ := meas_m h
  obtain ⟨b, h2, hb, sb⟩ := tags_m ha (by decide) sa
  obtain ⟨d, h3, hd, sd⟩ := fields_end hb sb
  refine ⟨d, ?_, hd, sd⟩
  unfold mEntry mAhead mHead
  rw [h1]; simp only
  rw [h2]; simp only
  rw [h3]; simp only
  exact time_other d (by omega)

/-- On to the next entry, behind the end of one. -/
theorem next_m {m : MSt} {R : List UInt8} (h : m.rest = 109 :: R) (hs : m.sec = 5) : (mNx m).rest = 109 :: R ∧ (mNx m).sec = 0 ∧ (mNx m).has 1 = true := by
  have hk : mSkip m = m := by
    unfold mSkip
    refine iterR_done ?_
    unfold skipStep
    have hb : m.skip blankP = m := skip_none h (by decide)
    simp only [hb, at0_cons h]
    rw [if_neg (by decide), if_neg (by decide), if_neg (by decide)]
  have he : mEnd m = m := by
    unfold mEnd
    have : to5 m = (m, none) := by unfold to5; rw [if_neg (by omega)]
    rw [this, if_pos rfl]
  have hn : mNx m = m.to 0 := by unfold mNx; rw [he, hk]
  rw [hn]
  exact ⟨h, rfl, has_cons (m := m.to 0) h⟩

/-- The whole: two entries. -/
theorem two_entries {l : List UInt8} (hl : l ≠ []) (hc : ∀ c ∈ l, timeCP c.toNat = true) :
    ∃ a1 a2 a3 a4 : MSt, mNx (mStart (109 :: 32 :: 102 :: 61 :: 49 :: 32 :: (l ++ 10 :: [109, 32, 102, 61, 49, 10]))) = a1 ∧ a1.has 1 = true ∧
      timeOf (toK 3 a1).2 (toK 3 a1).1 = (a2, .ok l) ∧ mNx a2 = a3 ∧ a3.has 1 = true ∧ timeOf (toK 3 a3).2 (toK 3 a3).1 = (a4, .ok []) := by
  obtain ⟨h1, s1, g1⟩ := next_m (m := mStart (109 :: 32 :: 102 :: 61 :: 49 :: 32 :: (l ++ 10 :: [109, 32, 102, 61, 49, 10]))) rfl rfl
  obtain ⟨a2, h2, r2, s2⟩ := entry_time h1 hl hc
  obtain ⟨h3, s3, g3⟩ := next_m r2 s2
  obtain ⟨a4, h4, r4, s4⟩ := entry_none h3
  exact ⟨_, a2, _, a4, rfl, g1, by rw [time_entry _ s1]; exact h2, rfl, g3, by rw [time_entry _ s3]; exact h4⟩
end Go.Proofs.YtejlokdcocacaaaGreatDoor
