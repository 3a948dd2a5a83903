/- The reference's token. -/
import Derived.Test.YtejlokdcocacaaaGreatDoorKSpecH
import Derived.Test.YtejlokdcocacaaaGreatDoorKSpecC
import Derived.Test.YtejlokdcocacaaaGreatDoorKSpecU
import Derived.Test.YtejlokdcocacaaaGreatDoorKDcx
namespace Go.Proofs.YtejlokdcocacaaaGreatDoor
open Go.RowKit

/-- What is left of the text. -/
def restOf (s : ByteArray) (i : Nat) : List UInt8 := s.data.toList.drop i

/-- The part behind a fault. -/
def brk (p : Nat) : Nat := if p = 5 then 5 else 4

theorem extract_rest (s : ByteArray) (i : Nat) : (s.extract i s.size).data.toList = restOf s i := by
  unfold restOf
  simp only [ByteArray.data_extract, Array.toList_extract, List.extract_eq_take_drop]
  apply List.take_of_length_le
  rw [List.length_drop, size_list]
  exact Nat.le_refl _

theorem restOf_len (s : ByteArray) (i : Nat) : (restOf s i).length = s.size - i := by unfold restOf; rw [List.length_drop]; rfl
theorem restOf_at (s : ByteArray) (i : Nat) (h : i < s.size) : restOf s i = s[i] :: restOf s (i + 1) := by
  unfold restOf
  rw [List.drop_eq_getElem_cons (show i < s.data.toList.length from h), ← at_list s i h]
theorem restOf_end (s : ByteArray) (i : Nat) (h : s.size ≤ i) : restOf s i = [] := List.drop_eq_nil_of_le h

/-- What token gives: the bytes, or a fault. -/
def TokR (R : Nat) (s : ByteArray) (w : World) (f : Nat → Bool) (g : Nat → Int) (i p fr : Nat) (e : Ending) (w' : World) : Prop :=
  (∃ (b : Bool) (x y : Int), e = .returned (.tuple #[.string (if b = true then ⟨#[]⟩ else ⟨(tok f g (restOf s i)).2.toArray⟩), .agg (F37 b x y)]) ∧ b = !Lib.validD (tok f g (restOf s i)).2) ∧
  IsRd w' R s (i + (tok f g (restOf s i)).1) (if Lib.validD (tok f g (restOf s i)).2 = true then p else brk p) fr ∧ Rds R w w'

theorem res_tmp_cell37 {fn : Func} {q p : Tmp} (h : fn.results = #[.tmp q, .cell p 37]) {tmps : Array Value} {w : World} {g : Nat} {cs : Array Value} {v : Value} (hq : tmps.getD q undef = v) (hp : tmps.getD p undef = .pointer (some ⟨g, 0, none⟩)) (hg : w.heap[g]? = some (.cells cs 37 (0, 0))) (hc : cs.size = 4) :
    (results fn tmps).run Tryz.prog w = .ok (.tuple #[v, .agg cs]) w := by
  have hp' : tmps[p]?.getD undef = .pointer (some ⟨g, 0, none⟩) := by simpa using hp
  have hq' : tmps[q]?.getD undef = v := by simpa using hq
  have hl := run_loadVar_row (P := Tryz.prog) w g 37 37 cs (0, 0) _ hg Tryz.underlying37 rfl (by rw [hc]; exact info37t)
  simp [results, h, hp', hq', asAddr, hl]

set_option maxHeartbeats 4000000 in
set_option maxRecDepth 100000 in
theorem token94 {w : World} {R : Nat} {s : ByteArray} {i p fr : Nat} {f : Nat → Bool} {g : Nat → Int} (k : Int) (htok : ∀ (s2 : ByteArray) (_ : s2.size ≤ 1000) (w : World), Calls Tryz.prog 132 #[.int .i64 k, .string s2] w fun e w' => e = .returned (.tuple #[.string ⟨(tok f g s2.data.toList).2.toArray⟩, .int .i64 ((tok f g s2.data.toList).1 : Int)]) ∧ Below w.heap.size w w')
    (h : IsRd w R s i p fr) (hs : s.size ≤ 1000) (hi : i ≤ s.size) (hp : p ≤ 5) (hfr : fr ≤ i) :
    Calls Tryz.prog 94 #[.pointer (some ⟨R, 0, none⟩), .int .i64 k] w (TokR R s w f g i p fr) := by
  have hR := lt_of_block h
  obtain ⟨w1, hw1⟩ : ∃ w1, w.alloc z37 = w1 := ⟨_, rfl⟩
  have H1 : Hid (IsRd w1 R s i p fr) := hid (hw1 ▸ h.alloc z37)
  have HF : Hid (Rds R w w1) := hid (hw1 ▸ (Rds.refl R w).alloc z37)
  have hn : w1.heap[w.heap.size]? = some (.cells #[.bool false, .int .i64 0, .int .i64 0, .bool false] 37 (0, 0)) := by rw [← hw1]; exact heap_alloc_new _ _
  have hTK := htok (s.extract i s.size) (by rw [ByteArray.size_extract]; omega) w1
  rw [extract_rest] at hTK
  obtain ⟨u, hu⟩ : ∃ u, tok f g (restOf s i) = u := ⟨_, rfl⟩
  have hle : u.1 ≤ s.size - i := by rw [← hu, ← restOf_len]; exact (tok_le (f := f) (g := g) _ _ (Nat.le_refl _)).1
  have hle2 : u.2.length ≤ u.1 := by rw [← hu]; exact (tok_le (f := f) (g := g) _ _ (Nat.le_refl _)).2
  rw [hu] at hTK
  have HU := hid hu
  have HTK := hid hTK
  have HN := hid hn
  obtain ⟨c0, c1, c2, c3, fz⟩ := H1.out.cells
  have hR1 := lt_of_block H1.out
  have hi2 : (i : Int) ≤ (s.size : Int) := by omega
  clear h hTK htok hn hu
  go_enter Tryz.func94, Tryz.ntmps94
  go_upto_region 1 with fail
  change Code.wp _ _ _ _ (w.alloc z37)
  rw [hw1]
  go_wp2_with fail
  refine HTK.out.mono ?_
  rintro e w2 ⟨rfl, hb2⟩
  have H2 : Hid (IsRd w2 R s i p fr) := hid (H1.out.below hb2)
  have HF2 : Hid (Rds R w w2) := hid (HF.out.below hb2)
  have HN2 := hid ((hb2.block w.heap.size (lt_of_block HN.out)).trans HN.out)
  clear HTK H1 HF HN hb2 c0 c1 c2 c3 fz hw1
  obtain ⟨c0, c1, c2, c3, fz⟩ := H2.out.cells
  have hR2 := lt_of_block H2.out
  clear c0 c2 c3
  have t1 : (i : Int) + (u.1 : Int) ≤ 1000 := by omega
  go_upto_region 4 with fail
  have H3 := hid (H2.out.setAt (i + u.1))
  have HF3 := hid (HF2.out.setR 1 (.int .i64 ((i + u.1 : Nat) : Int)))
  have HN3 := hid ((heap_setCell_other w2 ⟨R, 1, none⟩ w.heap.size (.int .i64 ((i + u.1 : Nat) : Int)) (by show w.heap.size ≠ R; omega)).trans HN2.out)
  obtain ⟨w3, hw3⟩ : ∃ w3, w2.setCell ⟨R, 1, none⟩ (.int .i64 ((i + u.1 : Nat) : Int)) = w3 := ⟨_, rfl⟩
  rw [hw3] at H3 HF3 HN3
  change Code.wp _ _ _ _ (w2.setCell ⟨R, 1, none⟩ (.int .i64 ((i + u.1 : Nat) : Int)))
  rw [hw3]
  clear H2 HF2 HN2 c1 fz hw3
  have hut := utf8_spec ⟨u.2.toArray⟩ (by show u.2.toArray.size ≤ 1000; simp; omega) w3
  rw [show (ByteArray.mk u.2.toArray).data.toList = u.2 from rfl] at hut
  cases hvd : Lib.validD u.2
  · rw [hvd] at hut
    have HUT := hid hut
    have HVD := hid hvd
    clear hut hvd
    go_wp2_with fail
    refine HUT.out.mono ?_
    rintro e w4 ⟨rfl, rfl⟩
    go_wp2_with fail
    refine (specFault_spec H3.out hs hp i hi hfr).mono ?_
    rintro e w5 ⟨⟨v, rfl, x, y, rfl⟩, h5, f5⟩
    have HN5 := hid ((f5.block w.heap.size (lt_of_block HN3.out) (by omega)).trans HN3.out)
    have H5 := hid h5
    have F5 := hid (HF3.out.trans f5)
    clear h5 f5 HN3 HF3 H3
    go_wp2_with (refine wpList_store_row (o := ⟨none, .store 37 (.tmp 5) (.tmp 36), _, _, _, _⟩) rfl 37 _ _ rfl w.heap.size (F37 true x y) rfl rfl 37 _ HN5.out info37t rfl (by simp [F37, Value.oneCell']) ?_)
    refine bodyPost_ret (res_tmp_cell37 rfl rfl rfl (setRow_heap _ _ _ _ _ _ HN5.out) rfl) rfl ?_
    unfold TokR
    rw [HU.out, HVD.out]
    exact ⟨⟨true, x, y, rfl, rfl⟩, H5.out.setRow (by omega) _, F5.out.setRow (Nat.le_refl _) _⟩
  · rw [hvd] at hut
    have HUT := hid hut
    have HVD := hid hvd
    clear hut hvd
    go_wp2_with fail
    refine HUT.out.mono ?_
    rintro e w4 ⟨rfl, rfl⟩
    have n0 : w4.cell? ⟨w.heap.size, 0, none⟩ = some (.bool false) := cell_of_row w4 w.heap.size 0 _ _ _ HN3.out
    have n1 : w4.cell? ⟨w.heap.size, 1, none⟩ = some (.int .i64 0) := cell_of_row w4 w.heap.size 1 _ _ _ HN3.out
    have n2 : w4.cell? ⟨w.heap.size, 2, none⟩ = some (.int .i64 0) := cell_of_row w4 w.heap.size 2 _ _ _ HN3.out
    have n3 : w4.cell? ⟨w.heap.size, 3, none⟩ = some (.bool false) := cell_of_row w4 w.heap.size 3 _ _ _ HN3.out
    have nf : ∀ o, w4.frozen? ⟨w.heap.size, o, none⟩ = false := fun o => frozen_of_row w4 w.heap.size o _ _ HN3.out
    go_upto_region 6 with fail
    go_region
    go_wp2_with fail
    refine bodyPost_ret (res_tmp_cell37 rfl rfl rfl (lay37 HN3.out _ _ _ _) rfl) rfl ?_
    unfold TokR
    rw [HU.out, HVD.out]
    exact ⟨⟨false, 0, 0, rfl, rfl⟩, ((((H3.out.setNew (by show R ≠ w.heap.size; omega) _).setNew (by show R ≠ w.heap.size; omega) _).setNew (by show R ≠ w.heap.size; omega) _).setNew (by show R ≠ w.heap.size; omega) _), ((((HF3.out.drew.setNew (Nat.le_refl _) _).setNew (Nat.le_refl _) _).setNew (Nat.le_refl _) _).setNew (Nat.le_refl _) _)⟩
end Go.Proofs.YtejlokdcocacaaaGreatDoor

/- The reference's Name. -/
namespace Go.Proofs.YtejlokdcocacaaaGreatDoor
open Go.RowKit

/-- Where a method of the reference's stands: its decoder, and the fault in the block V. -/
structure Sv (w0 : World) (R : Nat) (s : ByteArray) (i p fr V : Nat) (b : Bool) (w : World) : Prop where
  rd : IsRd w R s i p fr
  fm : Rds R w0 w
  row : ∃ x y : Int, w.heap[V]? = some (.cells (F37 b x y) 37 (0, 0))
  vr : V ≠ R
  v0 : w0.heap.size ≤ V

section
variable {w0 w : World} {R : Nat} {s : ByteArray} {i p fr V : Nat} {b : Bool}

theorem Sv.begin (h : IsRd w R s i p fr) : Sv w R s i p fr w.heap.size false (w.alloc z37) :=
  ⟨h.alloc z37, (Rds.refl R w).alloc z37, ⟨0, 0, heap_alloc_new _ _⟩, by have := lt_of_block h; omega, Nat.le_refl _⟩
theorem Sv.call (h : Sv w0 R s i p fr V b w) {i' p' fr' : Nat} {w' : World} (hr : IsRd w' R s i' p' fr') (hf : Rds R w w') : Sv w0 R s i' p' fr' V b w' := by
  obtain ⟨x, y, hx⟩ := h.row
  exact ⟨hr, h.fm.trans hf, ⟨x, y, (hf.block V (lt_of_block hx) h.vr).trans hx⟩, h.vr, h.v0⟩
theorem Sv.drewN (h : Sv w0 R s i p fr V b w) (n : Nat) : Sv w0 R s i p fr V b (w.drewN n) := ⟨h.rd, h.fm.drewN n, h.row, h.vr, h.v0⟩
theorem Sv.drew (h : Sv w0 R s i p fr V b w) : Sv w0 R s i p fr V b w.drew := ⟨h.rd, h.fm.drew, h.row, h.vr, h.v0⟩
theorem Sv.store (h : Sv w0 R s i p fr V b w) (b' : Bool) (x y : Int) : Sv w0 R s i p fr V b' (w.setRow V (F37 b' x y)) := by
  obtain ⟨x0, y0, hx⟩ := h.row
  exact ⟨h.rd.setRow (fun e => h.vr e.symm) _, h.fm.setRow h.v0 _, ⟨x, y, setRow_heap _ _ _ _ _ _ hx⟩, h.vr, h.v0⟩
theorem Sv.part (h : Sv w0 R s i p fr V b w) (n : Nat) : Sv w0 R s i n fr V b (w.setCell ⟨R, 2, none⟩ (.int .i64 (n : Int))) := by
  obtain ⟨x0, y0, hx⟩ := h.row
  exact ⟨h.rd.setPart n, h.fm.setR 2 _, ⟨x0, y0, (heap_setCell_other _ _ _ _ (by show V ≠ R; exact h.vr)).trans hx⟩, h.vr, h.v0⟩
theorem Sv.place (h : Sv w0 R s i p fr V b w) (n : Nat) : Sv w0 R s n p fr V b (w.setCell ⟨R, 1, none⟩ (.int .i64 (n : Int))) := by
  obtain ⟨x0, y0, hx⟩ := h.row
  exact ⟨h.rd.setAt n, h.fm.setR 1 _, ⟨x0, y0, (heap_setCell_other _ _ _ _ (by show V ≠ R; exact h.vr)).trans hx⟩, h.vr, h.v0⟩
theorem Sv.relay (h : Sv w0 R s i p fr V b w) (b' : Bool) (x y : Int) : Sv w0 R s i p fr V b' ((((w.setCell ⟨V, 0, none⟩ (.bool b')).setCell ⟨V, 1, none⟩ (.int .i64 x)).setCell ⟨V, 2, none⟩ (.int .i64 y)).setCell ⟨V, 3, none⟩ (.bool false)) := by
  obtain ⟨x0, y0, hx⟩ := h.row
  have hv := h.vr
  have hv0 := h.v0
  exact ⟨(((h.rd.setNew (by show R ≠ V; omega) _).setNew (by show R ≠ V; omega) _).setNew (by show R ≠ V; omega) _).setNew (by show R ≠ V; omega) _, (((h.fm.setNew hv0 _).setNew hv0 _).setNew hv0 _).setNew hv0 _, ⟨x, y, lay37 hx _ _ _ _⟩, hv, hv0⟩
end

theorem res_tt37 {fn : Func} {q r p : Tmp} (h : fn.results = #[.tmp q, .tmp r, .cell p 37]) {tmps : Array Value} {w : World} {g : Nat} {cs : Array Value} {u v : Value} (hq : tmps.getD q undef = u) (hr : tmps.getD r undef = v) (hp : tmps.getD p undef = .pointer (some ⟨g, 0, none⟩)) (hg : w.heap[g]? = some (.cells cs 37 (0, 0))) (hc : cs.size = 4) :
    (results fn tmps).run Tryz.prog w = .ok (.tuple #[u, v, .agg cs]) w := by
  have hp' : tmps[p]?.getD undef = .pointer (some ⟨g, 0, none⟩) := by simpa using hp
  have hq' : tmps[q]?.getD undef = u := by simpa using hq
  have hr' : tmps[r]?.getD undef = v := by simpa using hr
  have hl := run_loadVar_row (P := Tryz.prog) w g 37 37 cs (0, 0) _ hg Tryz.underlying37 rfl (by rw [hc]; exact info37t)
  simp [results, h, hp', hq', hr', asAddr, hl]

/-- The reference's state beside the model's. -/
def Sp (s : ByteArray) (i p : Nat) (m : MSt) : Prop := restOf s i = m.rest ∧ i ≤ s.size ∧ m.sec = p

/-- What a reading method of the reference's gives: whether a fault is; the place and the part, as the model's. -/
def NameR (R : Nat) (s : ByteArray) (w : World) (m : MSt) (b : Bool) (fr : Nat) (e : Ending) (w' : World) : Prop :=
  ∃ (i : Nat) (nm : ByteArray) (ok : Bool) (x y : Int), e = .returned (.tuple #[.string nm, .bool ok, .agg (F37 b x y)]) ∧ Sp s i m.sec m ∧ fr ≤ i ∧ IsRd w' R s i m.sec fr ∧ Rds R w w'

section
variable {s : ByteArray} {i p : Nat} {m : MSt}
theorem Sp.rest (h : Sp s i p m) : m.rest = restOf s i := h.1.symm
theorem Sp.has1 (h : Sp s i p m) : m.has 1 = decide (i < s.size) := by
  rw [left_has (Nat.le_refl 1), h.rest, restOf_len]
  congr 1
  have := h.2.1
  exact propext (by omega)
theorem Sp.at0 (h : Sp s i p m) (hi : i < s.size) : m.at0 = s[i] := at0_cons (h.rest.trans (restOf_at s i hi))
theorem restOf_drop (s : ByteArray) (i n : Nat) : (restOf s i).drop n = restOf s (i + n) := by unfold restOf; rw [List.drop_drop]
theorem Sp.adv (h : Sp s i p m) (n : Nat) (hn : i + n ≤ s.size) : Sp s (i + n) p (m.adv n) := ⟨by rw [adv_rest, h.rest, restOf_drop], hn, h.2.2⟩
theorem Sp.tk (h : Sp s i p m) (f : Nat → Bool) (g : Nat → Int) : Sp s (i + (tok f g (restOf s i)).1) p (m.tk f g) := by
  refine ⟨by rw [tk_rest, h.rest, restOf_drop], ?_, h.2.2⟩
  have h1 := (tok_le (f := f) (g := g) _ (restOf s i) (Nat.le_refl _)).1
  have h2 := h.2.1
  rw [restOf_len] at h1
  omega
theorem Sp.skip (h : Sp s i p m) (f : Nat → Bool) : Sp s (i + runN f s i) p (m.skip f) := by
  refine ⟨?_, runN_le h.2.1, h.2.2⟩
  show _ = (m.adv (m.run f)).rest
  rw [adv_rest, h.rest, restOf_drop]
  unfold MSt.run runN
  rw [h.rest]
  rfl
theorem Sp.to (h : Sp s i p m) (n : Nat) : Sp s i n (m.to n) := ⟨h.1, h.2.1, rfl⟩
theorem Sp.broke (h : Sp s i p m) : Sp s i (brk p) m.broke := ⟨h.1, h.2.1, by show (if m.sec = 5 then 5 else 4) = _; rw [h.2.2]; rfl⟩
theorem Sp.reset (h : Sp s i p m) : Sp s i p m.reset := by
  unfold MSt.reset
  split
  · rename_i ht
    refine ⟨?_, h.2.1, h.2.2⟩
    rw [h.1]
    show m.t.drop m.r1 = [].drop 0
    rw [List.drop_eq_nil_of_le (by omega)]; rfl
  · exact ⟨h.1, h.2.1, h.2.2⟩
theorem Sp.line (h : Sp s i p m) (x : Int) : Sp s i p { m with line := x } := h
theorem Sp.next (h : Sp s i p m) (f : Nat → Bool) : nextIs f s i = (m.has 1 && f m.at0.toNat) := by
  unfold nextIs
  rw [h.has1]
  by_cases hi : i < s.size
  · rw [dif_pos hi, h.at0 hi]; simp [hi]
  · rw [dif_neg hi]; simp [hi]
theorem Sp.comma (h : Sp s i p m) : commaAt s i = decide (m.has 1 = true ∧ m.at0 = 44) := by
  unfold commaAt
  rw [h.next]
  have hb : (m.at0.toNat = 44) ↔ m.at0 = 44 := ⟨fun e => UInt8.toNat.inj e, fun e => by rw [e]; rfl⟩
  cases m.has 1 <;> simp [hb]
theorem Sp.bare (h : Sp s i p m) : bareAt s i = decide (m.has 1 = false ∨ whiteP m.at0.toNat = true) := by
  unfold bareAt
  rw [h.next, h.has1]
  by_cases hi : i < s.size
  · have h1 : ¬ s.size ≤ i := by omega
    simp [hi, h1]
  · have h1 : s.size ≤ i := by omega
    simp [hi, h1]
end

/-- behind, as the model's comma. -/
theorem behind_any {w : World} {R : Nat} {s : ByteArray} {i p fr : Nat} {m : MSt} (h : IsRd w R s i p fr) (hs : s.size ≤ 1000) (hp : p ≤ 5) (hfr : fr ≤ i) (hm : Sp s i p m) :
    Calls Tryz.prog 96 #[.pointer (some ⟨R, 0, none⟩)] w fun e w' => ∃ i' x y, e = .returned (.agg (F37 (mComma m).2.isSome x y)) ∧ Sp s i' (mComma m).1.sec (mComma m).1 ∧ fr ≤ i' ∧ IsRd w' R s i' (mComma m).1.sec fr ∧ Rds R w w' := by
  have hc := hm.comma
  by_cases hk : m.has 1 = true ∧ m.at0 = 44
  · rw [decide_eq_true hk] at hc
    have hi : i < s.size := by have := hk.1; rw [hm.has1] at this; simpa using this
    have hm1 := hm.adv 1 (by omega)
    have hbr := hm1.bare
    refine (behind_comma h hs hm.2.1 hp hfr hc).mono ?_
    rintro e w' ⟨⟨v, rfl, x, y, rfl⟩, hr, hf⟩
    unfold mComma
    rw [if_pos hk]
    by_cases hb : (m.adv 1).has 1 = false ∨ whiteP (m.adv 1).at0.toNat = true
    · rw [decide_eq_true hb] at hbr
      rw [if_pos hb]
      rw [hbr] at hr ⊢
      have hmb := hm1.broke
      have hbs : (m.adv 1).broke.sec = brk p := hmb.2.2
      refine ⟨i + 1, x, y, rfl, ?_, by omega, ?_, hf⟩
      · show Sp s (i + 1) (m.adv 1).broke.sec (m.adv 1).broke
        rw [hbs]; exact hmb
      · show IsRd w' R s (i + 1) (m.adv 1).broke.sec fr
        rw [hbs]; exact hr
    · rw [decide_eq_false hb] at hbr
      rw [if_neg hb]
      rw [hbr] at hr ⊢
      have hbs : (m.adv 1).sec = p := hm1.2.2
      refine ⟨i + 1, x, y, rfl, ?_, by omega, ?_, hf⟩
      · show Sp s (i + 1) (m.adv 1).sec (m.adv 1)
        rw [hbs]; exact hm1
      · show IsRd w' R s (i + 1) (m.adv 1).sec fr
        rw [hbs]; exact hr
  · rw [decide_eq_false hk] at hc
    refine (behind_none h hs hm.2.1 hc).mono ?_
    rintro e w' ⟨⟨v, rfl, x, y, rfl⟩, hr, hf⟩
    unfold mComma
    rw [if_neg hk]
    have hbs : m.sec = p := hm.2.2
    refine ⟨i, x, y, rfl, ?_, hfr, ?_, hf⟩
    · show Sp s i m.sec m
      rw [hbs]; exact hm
    · show IsRd w' R s i m.sec fr
      rw [hbs]; exact hr
end Go.Proofs.YtejlokdcocacaaaGreatDoor
