/- The decoder beside blocks of the caller's own. -/
import Derived.Test.YtejlokdcocacaaaGreatDoorLaw
import Derived.Test.YtejlokdcocacaaaGreatDoorFault
import Derived.Test.YtejlokdcocacaaaGreatDoorStart
namespace Go.Proofs.YtejlokdcocacaaaGreatDoor
open Go.RowKit

/-- The decoder in the plain state m, since the world w0. -/
structure Dc (B D T E0 : Nat) (w0 : World) (m : MSt) (E : Nat) (w : World) : Prop where
  ex : ∃ es, Rep w B D T E false (m.d es) ∧ es.length + m.r0 ≤ m.r1
  st : Stw 0 D E0 w0 E w
  ok : m.Ok
  dlt : D < w0.heap.size
  tlt : T < w0.heap.size
  b4 : 3 < B
  bd : B ≤ D
  de0 : D ≠ E0
  be0 : B ≤ E0

section
variable {B D T E0 E : Nat} {w0 w : World} {m : MSt}

theorem Dc.start {es : List UInt8} (h : Rep w B D T E false (m.d es)) (hes : es.length + m.r0 ≤ m.r1) (hk : m.Ok) : Dc B D T E w m E w :=
  ⟨⟨es, h, hes⟩, (Stp.refl D E w).weak 0 h.lt.2.2.1 h.DE, hk, h.lt.1, h.lt.2.1, h.B3, h.bD, h.DE, h.lt.2.2.2⟩

theorem Dc.de (h : Dc B D T E0 w0 m E w) : D ≠ E := by obtain ⟨es, hr, _⟩ := h.ex; exact hr.DE

theorem Dc.keep (h : Dc B D T E0 w0 m E w) {w' : World} (ho : w'.os = w.os) (ht : w'.tape = w.tape) (hp : w'.output = w.output) (hs : w.heap.size ≤ w'.heap.size)
    (hk : ∀ k, k < w.heap.size → k < w0.heap.size ∨ k = E → w'.heap[k]? = w.heap[k]?) : Dc B D T E0 w0 m E w' := by
  obtain ⟨es, hr, he⟩ := h.ex
  have hl := hr.lt
  have hb4 := h.b4
  have hbd := h.bd
  have hdl := h.dlt
  have htl := h.tlt
  have hsz := h.st.size
  refine ⟨⟨es, ?_, he⟩, ⟨ho.trans h.st.os, ht.trans h.st.tape, hp.trans h.st.output, Nat.le_trans hsz hs, fun k h1 h2 h3 => (hk k (by omega) (.inl h1)).trans (h.st.block k h1 h2 h3), h.st.esc, h.st.inE, fun i hi => absurd hi (by omega)⟩, h.ok, hdl, htl, hb4, hbd, h.de0, h.be0⟩
  obtain ⟨C, ec, hC, hC2, hd, h1, hob⟩ := hr.dec
  obtain ⟨tc, fr, htx, htt⟩ := hr.text
  have k2 := hk 2 (by omega) (.inl (by omega))
  have k3 := hk 3 (by omega) (.inl (by omega))
  have kD := hk D hl.1 (.inl hdl)
  have kT := hk T hl.2.1 (.inl htl)
  have kE := hk E hl.2.2.1 (.inr rfl)
  refine ⟨hr.B3, hr.tabs.keep k2 k3, hr.bD, hr.bT, hr.DT, hr.DE, hr.TE, ⟨C, ec, hC, hC2, ?_, h1, ?_⟩, ⟨tc, fr, by rw [kT]; exact htx, htt⟩, hr.le1, hr.small, hr.sec5, hr.le0, hr.esc1, hr.line0, hr.line1⟩
  · unfold IsDec; rw [kD]; exact hd
  · rcases hob with ⟨hv, _⟩ | ⟨g, cap, cur, hv, hb, hg, r⟩
    · cases hv
    · cases hv; exact .inr ⟨E, ec, cur, rfl, hb, by rw [kE]; exact hg, r⟩

theorem Dc.below (h : Dc B D T E0 w0 m E w) {w' : World} (k : Below w.heap.size w w') : Dc B D T E0 w0 m E w' := h.keep k.os k.tape k.output k.size fun i hi _ => k.block i hi
theorem Dc.alloc (h : Dc B D T E0 w0 m E w) (o : Obj) : Dc B D T E0 w0 m E (w.alloc o) := h.below ((Below.refl _ _).alloc (Nat.le_refl _) o)
theorem Dc.drewN (h : Dc B D T E0 w0 m E w) (n : Nat) : Dc B D T E0 w0 m E (w.drewN n) := h.keep rfl rfl rfl (Nat.le_refl _) fun _ _ _ => rfl
theorem Dc.setNew (h : Dc B D T E0 w0 m E w) {p : Addr} (hp : w0.heap.size ≤ p.block) (hE : p.block ≠ E) (v : Value) : Dc B D T E0 w0 m E (w.setCell p v) :=
  h.keep rfl rfl rfl (by simp [World.setCell]) fun k _ h2 => heap_setCell_other w p k v (by rcases h2 with h2 | h2 <;> omega)
theorem Dc.setRow (h : Dc B D T E0 w0 m E w) {g : Nat} (hp : w0.heap.size ≤ g) (hE : g ≠ E) (cs : Array Value) : Dc B D T E0 w0 m E (w.setRow g cs) :=
  h.keep (setRow_os _ _ _) (setRow_tape _ _ _) (setRow_output _ _ _) (by simp) fun k _ h2 => setRow_other w g k cs (by rcases h2 with h2 | h2 <;> omega)

/-- What a method leaves, since the world w0. -/
theorem Dc.call (h : Dc B D T E0 w0 m E w) {m' : MSt} (hk : m'.Ok) {R : World → Value → Prop} {e : Ending} {w' : World} (k : DX B D T E false w m' R e w') :
    ∃ E' v, e = .returned v ∧ R w' v ∧ Dc B D T E0 w0 m' E' w' ∧ (∀ g, g < w.heap.size → g ≠ D → g ≠ E → w'.heap[g]? = w.heap[g]? ∧ g ≠ E') ∧ w.heap.size ≤ w'.heap.size := by
  obtain ⟨E', es, v, rfl, hR, hr, st, hl⟩ := k
  exact ⟨E', v, rfl, hR, ⟨⟨es, hr, hl⟩, h.st.trans st (Nat.le_refl _) h.de0, hk, h.dlt, h.tlt, h.b4, h.bd, h.de0, h.be0⟩, fun g h1 h2 h3 => ⟨st.block g h1 h2 h3, by rcases st.esc with e | e <;> omega⟩, st.size⟩

theorem Dc.dx (h : Dc B D T E0 w0 m E w) {R : World → Value → Prop} {v : Value} (hR : R w v) : DX B D T E0 false w0 m R (.returned v) w := by
  obtain ⟨es, hr, he⟩ := h.ex
  exact ⟨E, es, v, rfl, hR, hr, h.st, he⟩

theorem Dc.glob (h : Dc B D T E0 w0 m E w) (hg : Glob B w0) : Glob B w := by
  obtain ⟨g, c, t, h1, h2, h3⟩ := hg
  have hb4 := h.b4
  have hk := h.st.toBelow h.bd h.be0 (by have := h.bd; have := h.dlt; omega)
  exact ⟨g, c, t, (World.cell?_of_block (w := w0) (a := ⟨1, 0, none⟩) (hk.block 1 (by omega))).trans h1, h2, (hk.block g.block h2).trans h3⟩

theorem Dc.time (h : Dc B D T E0 w0 m E w) : Calls Tryz.prog 35 #[.pointer (some ⟨D, 0, none⟩)] w (DX B D T E false w (timeOf (toK 3 m).2 (toK 3 m).1).1 (TimeIs B D (timeOf (toK 3 m).2 (toK 3 m).1).2)) := by
  obtain ⟨es, hr, he⟩ := h.ex
  exact time_full hr he h.ok
theorem Dc.field (h : Dc B D T E0 w0 m E w) : Calls Tryz.prog 34 #[.pointer (some ⟨D, 0, none⟩)] w (DX B D T E false w (fieldOf (toK 2 m).2 (toK 2 m).1).1 (FieldIs B false (fieldOf (toK 2 m).2 (toK 2 m).1).2)) := by
  obtain ⟨es, hr, he⟩ := h.ex
  exact field_full hr he h.ok
theorem Dc.next (h : Dc B D T E0 w0 m E w) : Calls Tryz.prog 24 #[.pointer (some ⟨D, 0, none⟩)] w (DX B D T E false w (mNx m) (fun _ v => v = .bool ((mNx m).has 1))) := by
  obtain ⟨es, hr, he⟩ := h.ex
  exact next_code hr he h.ok
end

theorem adv_timeOf (m : MSt) : Adv m (timeOf (toK 3 m).2 (toK 3 m).1).1 := by
  have h := adv_toK 3 (by omega) m
  unfold timeOf
  split
  · exact h
  · exact h.trans (adv_time _)
theorem adv_fieldOf (m : MSt) : Adv m (fieldOf (toK 2 m).2 (toK 2 m).1).1 := by
  have h := adv_toK 2 (by omega) m
  unfold fieldOf
  split
  · exact h
  · exact h.trans (adv_field _)
theorem adv_mEnd (m : MSt) : Adv m (mEnd m) := by
  unfold mEnd
  split
  · exact adv_to5 m
  · exact (adv_to5 m).trans (adv_to5 _)
theorem skipStep_adv (s : MSt) : (∀ s', skipStep s = .inl s' → Adv s s' ∧ s'.left < s.left) ∧ (∀ b, skipStep s = .inr b → Adv s b) := by
  have h1 := adv_skip s blankP
  unfold skipStep
  simp only
  split
  · rename_i h35
    have hh : (s.skip blankP).has 1 = true := at0_has (by rw [h35]; decide)
    have hr := run_some (f := commentP) hh (by rw [h35]; decide)
    have hb : ((s.skip blankP).skip commentP).left < (s.skip blankP).left := by
      have hl := has_left hh
      show (s.skip blankP).t.length - ((s.skip blankP).r1 + _) < (s.skip blankP).t.length - (s.skip blankP).r1
      omega
    have h2 := adv_skip (s.skip blankP) commentP
    have h3 := adv_eol ((s.skip blankP).skip commentP)
    split
    · refine ⟨fun s' e => ?_, fun b e => by simp at e⟩
      simp only [Sum.inl.injEq] at e
      subst e
      exact ⟨(h1.trans h2).trans h3, by have := h1.left; have := h3.left; omega⟩
    · rename_i he
      refine ⟨fun s' e => by simp at e, fun b e => ?_⟩
      simp only [Sum.inr.injEq] at e
      subst e
      have hn := eol_no _ (by simpa using he)
      rw [hn]
      refine ⟨?_, Int.le_refl _, ?_⟩
      · show s.t.length - (s.r0 + s.off) ≤ s.t.length - s.r1
        unfold MSt.off; omega
      · show s.line + ((s.t.length - (s.r0 + s.off) : Nat) : Int) ≤ s.line + ((s.t.length - s.r1 : Nat) : Int)
        unfold MSt.off; omega
  split
  · rename_i h10
    have h2 := adv_line_nl (s.skip blankP) h10
    refine ⟨fun s' e => ?_, fun b e => by simp at e⟩
    simp only [Sum.inl.injEq] at e
    subst e
    exact ⟨h1.trans h2.1, Nat.lt_of_lt_of_le h2.2 h1.left⟩
  split
  · rename_i h13
    have h3 := adv_eol (s.skip blankP)
    split
    · rename_i he
      refine ⟨fun s' e => ?_, fun b e => by simp at e⟩
      simp only [Sum.inl.injEq] at e
      subst e
      exact ⟨h1.trans h3, by have := h1.left; have := eol_less _ h13 he; omega⟩
    · refine ⟨fun s' e => by simp at e, fun b e => ?_⟩
      simp only [Sum.inr.injEq] at e
      subst e
      exact h1.trans h3
  · refine ⟨fun s' e => by simp at e, fun b e => ?_⟩
    simp only [Sum.inr.injEq] at e
    subst e
    exact h1
theorem adv_mSkip (m : MSt) : Adv m (mSkip m) := by
  unfold mSkip
  exact iterR_has MSt.left (fun s s' h => ((skipStep_adv s).1 s' h).2) (fun s => Adv m s) (fun b => Adv m b) (fun s s' hs he => hs.trans ((skipStep_adv s).1 s' he).1) (fun s b hs he => hs.trans ((skipStep_adv s).2 b he)) m (Adv.refl m)
theorem adv_mNx (m : MSt) : Adv m (mNx m) := ((adv_mEnd m).trans (adv_mSkip _)).trans (adv_to _ _)
end Go.Proofs.YtejlokdcocacaaaGreatDoor
