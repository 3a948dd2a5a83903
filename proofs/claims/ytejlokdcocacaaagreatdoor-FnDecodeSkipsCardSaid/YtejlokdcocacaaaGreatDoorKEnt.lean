/- entry: one entry, whole. -/
import Derived.Test.YtejlokdcocacaaaGreatDoorKEntA
namespace Go.Proofs.YtejlokdcocacaaaGreatDoor
open Go.RowKit Go.Proofs.YtejlokdcocacaaaGreatDoorW.PrintLast

def rowE (nm tv fv tm : Value) (has fi : Bool) (fl fc at' : Int) : Array Value := #[nm, tv, fv, tm, .bool has, .bool fi, .int .i64 fl, .int .i64 fc, .bool false, .int .i64 at']

/-- The row of an entry, by what its time tells. -/
def rowOf (nm tv fv : Value) (at' : Int) : TimeR → Array Value
  | .err f => rowE nm tv fv (.string ⟨#[]⟩) false true f.line f.col at'
  | .ok l => rowE nm tv fv (.string ⟨l.toArray⟩) (decide (l ≠ [])) false 0 0 at'

/-- The fields of an entry: the first one. -/
def FldOk (b E : Nat) (r : FieldR) (w : World) (v : Value) : Prop :=
  match r with
  | .some d => ∃ g n c, v = .slice (some ⟨g, 0, none⟩) (n + 1) c ∧ b ≤ g ∧ g < w.heap.size ∧ g ≠ E ∧ w.cell? ⟨g, 0, none⟩ = some (.string ⟨d.key.toArray⟩) ∧ w.cell? ⟨g, 1, none⟩ = some (.int .i64 (d.kind : Int)) ∧ w.cell? ⟨g, 2, none⟩ = some (.string ⟨d.raw.toArray⟩)
  | _ => v = .slice none 0 0

/-- What entry leaves. -/
def EntP (b E : Nat) (tr : TimeR) (fr : FieldR) (w : World) (v : Value) : Prop :=
  ∃ (nm : ByteArray) (p : Option Addr) (n c : Nat) (fv : Value) (a : Int), v = .agg (rowOf (.string nm) (.slice p n c) fv a tr) ∧ FldOk b E fr w fv

section
variable {w wx : World} {B D T E E0 : Nat} {w0 : World} {m : MSt}

theorem Dc.meas (h : Dc B D T E0 w0 m E w) (h0 : m.sec = 0) : Calls Tryz.prog 29 #[.pointer (some ⟨D, 0, none⟩)] w (DX B D T E false w (mMeas m).1 (MeasR B (mMeas m).2)) := by
  obtain ⟨es, hr, he⟩ := h.ex
  exact meas_code hr h.ok h0
theorem Dc.tag (h : Dc B D T E0 w0 m E w) (h0 : 1 ≤ m.sec) : Calls Tryz.prog 31 #[.pointer (some ⟨D, 0, none⟩)] w (DX B D T E false w (mTag m).1 (TagIs B (mTag m).2)) := by
  obtain ⟨es, hr, he⟩ := h.ex
  exact tag_code hr he h.ok h0
theorem Dc.fieldN (h : Dc B D T E0 w0 m E w) (h0 : 2 ≤ m.sec) : Calls Tryz.prog 34 #[.pointer (some ⟨D, 0, none⟩)] w (DX B D T E false w (mField m).1 (FieldIs B false (mField m).2)) := by
  obtain ⟨es, hr, he⟩ := h.ex
  exact field_code hr he h.ok h0
theorem Dc.timeN (h : Dc B D T E0 w0 m E w) (h0 : 3 ≤ m.sec) : Calls Tryz.prog 35 #[.pointer (some ⟨D, 0, none⟩)] w (DX B D T E false w (mTime m).1 (TimeIs B D (mTime m).2)) := by
  obtain ⟨es, hr, he⟩ := h.ex
  exact time_code hr he h.ok h0

theorem store48 {g : Nat} {old cs : Array Value} (hg : w.heap[g]? = some (.cells old 48 (0, 0))) (ho : old.size = 10) (hc : cs.size = 10) (h1 : cs.all (·.oneCell') = true) :
    (storeVar 48 ⟨g, 0, none⟩ (.agg cs)).run Tryz.prog w = .ok () (w.setRow g cs) :=
  run_storeVar_row w g 48 48 old cs hg (by rw [hc]; exact info48s) (by rw [hc]; exact ho) h1
theorem res48 {fn : Func} {p : Tmp} (h : fn.results = #[.cell p 48]) {tmps : Array Value} {w : World} {g : Nat} {cs : Array Value} (hp : tmps.getD p undef = .pointer (some ⟨g, 0, none⟩)) (hg : w.heap[g]? = some (.cells cs 48 (0, 0))) (hc : cs.size = 10) :
    (results fn tmps).run Tryz.prog w = .ok (.agg cs) w :=
  results_cell_row h tmps w g 48 cs (0, 0) _ hp hg Tryz.underlying48 rfl (by rw [hc]; exact info48s)
theorem load48 {g : Nat} {cs : Array Value} (hg : w.heap[g]? = some (.cells cs 48 (0, 0))) (hc : cs.size = 10) : (loadVar 48 ⟨g, 0, none⟩).run Tryz.prog w = .ok (.agg cs) w :=
  run_loadVar_row (P := Tryz.prog) w g 48 48 cs (0, 0) _ hg Tryz.underlying48 rfl (by rw [hc]; exact info48s)

theorem conv_kind (w : World) : ∀ (k : Nat) (_ : k ≤ 5), (convert 78 3 (.int .u8 (k : Int))).run Tryz.prog w = .ok (.int .i64 (k : Int)) w
  | 0, _ => by kernel_rfl
  | 1, _ => by kernel_rfl
  | 2, _ => by kernel_rfl
  | 3, _ => by kernel_rfl
  | 4, _ => by kernel_rfl
  | 5, _ => by kernel_rfl
  | n + 6, h => absurd h (by omega)

/-- What is known of the fields so far. -/
def FHead (c cur : MSt) (k : Nat) (xs : List Value) (fv : Value) : Prop :=
  (k = 0 ∧ cur = c ∧ fv = .slice none 0 0) ∨ (0 < k ∧ ∃ d ys, (mField c).2 = .some d ∧ xs = [.string ⟨d.key.toArray⟩, .int .i64 (d.kind : Int), .string ⟨d.raw.toArray⟩] ++ ys)

theorem fld_of {X k : Nat} {c cur : MSt} {cs : Array Value} {fv : Value} {xs : List Value} (h : En w B D T E0 X m E cs 50 3 fv k xs wx) (hh : FHead c cur k xs fv) (hn : ∀ d, (mField cur).2 ≠ .some d) : FldOk (w.heap.size + 1) E (mField c).2 wx fv := by
  rcases hh with ⟨rfl, rfl, rfl⟩ | ⟨hk, d, ys, hd, rfl⟩
  · rcases hf : (mField cur).2 with f | _ | d
    · rfl
    · rfl
    · exact absurd hf (hn d)
  · rw [hd]
    obtain ⟨hl, ho⟩ := h.own
    have hne := h.ne
    rcases ho with ⟨_, rfl⟩ | ⟨g, cap, cur', rfl, hb, hg, h1, h2, h3, h4⟩
    · omega
    · have hc : ∀ i, i < 3 → cur'[i]? = ([Value.string ⟨d.key.toArray⟩, .int .i64 (d.kind : Int), .string ⟨d.raw.toArray⟩] ++ ys)[i]? := by
        intro i hi
        rw [← h4, List.getElem?_take, if_pos (by omega)]
        simp
      refine ⟨g, k - 1, cap, by rw [show k - 1 + 1 = k by omega], hb, lt_of_block hg, fun e => hne (by rw [← e]; rfl), ?_, ?_, ?_⟩
      · rw [cell_of_row wx g 0 _ _ _ hg, hc 0 (by omega)]; rfl
      · rw [cell_of_row wx g 1 _ _ _ hg, hc 1 (by omega)]; rfl
      · rw [cell_of_row wx g 2 _ _ _ hg, hc 2 (by omega)]; rfl

theorem FldOk.keep {b E' : Nat} {r : FieldR} {v : Value} {wy : World} (h : FldOk b E' r w v) (hk : ∀ g, b ≤ g → g < w.heap.size → wy.heap[g]? = w.heap[g]?) (hs : w.heap.size ≤ wy.heap.size) : FldOk b E' r wy v := by
  cases r with
  | some d =>
    obtain ⟨g, n, c, rfl, h1, h2, h3, h4, h5, h6⟩ := h
    have hb := hk g h1 h2
    exact ⟨g, n, c, rfl, h1, by omega, h3, (World.cell?_of_block (w := w) (a := ⟨g, 0, none⟩) hb).trans h4, (World.cell?_of_block (w := w) (a := ⟨g, 1, none⟩) hb).trans h5, (World.cell?_of_block (w := w) (a := ⟨g, 2, none⟩) hb).trans h6⟩
  | none => exact h
  | err f => exact h

set_option maxHeartbeats 4000000 in
set_option maxRecDepth 100000 in
theorem entry_code (h : Dc B D T E0 w0 m E w) (hg : Glob B w) (h0 : m.sec = 0) :
    Calls Tryz.prog 25 #[.pointer (some ⟨D, 0, none⟩)] w fun e w' => ∃ v E', e = .returned v ∧ EntP (w.heap.size + 1) E' (mEntry m).2 (mFirst m).2 w' v ∧ Dc B D T E w (mEntry m).1 E' w' := by
  have h1 := h.rebase.alloc (.cells zE 48)
  have hz : (w.alloc (.cells zE 48)).heap[w.heap.size]? = some (.cells zE 48 (0, 0)) := heap_alloc_new _ _
  have hgl := hg.grow ((Below.refl _ _).alloc (Nat.le_refl _) (.cells zE 48))
  have HM := hid (h1.meas h0)
  have HOK := hid ((adv_meas m).ok h.ok)
  have HZ := hid hz
  have HH := hid h1
  have HR := hid h1.rebase
  have HG := hid hgl
  have HG0 := hid hg
  have hdl := h.dlt
  have hs0 := h.st.size
  have hE : E < w.heap.size := by obtain ⟨es, hr, _⟩ := h.ex; exact hr.lt.2.2.1
  have H0 := hid h0
  have heq := fun (w : World) (a : Option Addr) (n c : Nat) => Lib.run_eql_slice_nil (P := Tryz.prog) w 69 5 a n c 0 0 Tryz.underlying69
  unfold zE at HM
  clear h h1 hz hg hgl h0
  go_enter Tryz.func25, Tryz.ntmps25
  go_wp2_with fail
  refine HM.out.mono ?_
  rintro e w1 hx1
  obtain ⟨E1, v, rfl, hR, hd1, hkeep, hsz⟩ := HH.out.call HOK.out hx1
  obtain ⟨hz1, hge⟩ := hkeep w.heap.size (by simp) (by omega) (by omega)
  have HZ1 := hid (hz1.trans HZ.out)
  have HGE := hid hge
  have HD1 := hid hd1
  have HG1 := hid ((HR.out.call HOK.out hx1).choose_spec.choose_spec.2.2.1.glob HG.out)
  clear hkeep hx1 hd1 HM HZ hz1 hge
  obtain ⟨o, hmo⟩ : ∃ o, (mMeas m).2 = o := ⟨_, rfl⟩
  rw [hmo] at hR
  cases o with
  | some f =>
    obtain ⟨v2, hE2, rfl⟩ := hR
    have hen : mEntry m = ((mMeas m).1, .err f) := by
      unfold mEntry mAhead mHead
      rw [show mMeas m = ((mMeas m).1, some f) from by rw [← hmo]]
    have hfi : (mFirst m).2 = .err f := by
      unfold mFirst mHead
      rw [show mMeas m = ((mMeas m).1, some f) from by rw [← hmo]]
    have HE := hid hE2
    have HEN := hid hen
    have HFI := hid hfi
    obtain ⟨XE, YE, rfl, hx1, hx2, hx3⟩ := hE2
    clear hx1 hx2 hx3 hen hfi
    go_wp2_with fail
    refine (fault_some HG1.out HE.out).mono ?_
    rintro e w2 ⟨rfl, hb2⟩
    have HD2 := hid (HD1.out.below hb2)
    have HZ2 := hid ((hb2.block _ (lt_of_block HZ1.out)).trans HZ1.out)
    clear HD1 HZ1 hb2
    go_wp2_with (refine wpList_store_row (o := ⟨none, .store 48 (.tmp 2) (.tmp 23), _, _, _, _⟩) rfl 48 _ _ rfl w.heap.size (rowE (.string ⟨#[]⟩) (.slice none 0 0) (.slice none 0 0) (.string ⟨#[]⟩) false true f.line f.col 0) rfl rfl 48 _ HZ2.out info48s rfl (by simp [rowE, Value.oneCell']) ?_)
    refine bodyPost_ret (res48 rfl rfl (setRow_heap _ _ _ _ _ _ HZ2.out) rfl) rfl ?_
    rw [HEN.out, HFI.out]
    exact ⟨_, E1, rfl, ⟨_, _, _, _, _, _, rfl, rfl⟩, HD2.out.setRow (Nat.le_refl _) HGE.out _⟩
  | none =>
    obtain ⟨l, v1, hb, rfl⟩ := hR
    have hcv := run_bytes_string hb
    obtain ⟨b, ob, cb, rfl, hb1⟩ := hb
    have hal := heap_alloc_new w1 (.cells zE 48)
    have HAL := hid hal
    have hw1 := lt_of_block HZ1.out
    have hen : En w B D T E w1.heap.size (mMeas m).1 E1 zE 107 2 (.slice none 0 0) 0 [] (w1.alloc (.cells zE 48)) :=
      ⟨HD1.out.alloc _, (Below.heap_alloc w1 _ _ hw1).trans HZ1.out, hal, rowE_nil _ _ _ _, hw1, HGE.out, by have := HD1.out.ex; obtain ⟨es, hr, _⟩ := this; have := hr.lt.2.2.1; omega, by simp [Value.ownBlock], by simp [Value.ownBlock]⟩
    have HEN := hid hen
    clear hal hen hb1
    go_wp2_with (refine wpList_store_row (o := ⟨none, .store 48 (.tmp 5) (.tmp 26), _, _, _, _⟩) rfl 48 _ _ rfl w1.heap.size (rowE (.string ⟨l.toArray⟩) (.slice none 0 0) (.slice none 0 0) (.string ⟨#[]⟩) false false 0 0 0) rfl rfl 48 _ HAL.out info48s rfl (by simp [rowE, Value.oneCell']) ?_)
    have HEN2 := hid (HEN.out.row (rowE (.string ⟨l.toArray⟩) (.slice none 0 0) (.slice none 0 0) (.string ⟨#[]⟩) false false 0 0 0))
    have hl5 : (mMeas m).1.left ≤ 5000 := by have := HOK.out.2; have := HOK.out.1; omega
    have hs1 := (meas_sec m H0.out).1 hmo
    obtain ⟨a, ha⟩ : ∃ a, (mMeas m).1 = a := ⟨_, rfl⟩
    have hmm : mMeas m = (a, none) := by rw [← ha, ← hmo]
    rw [ha] at HOK HEN2 hl5 hs1
    have HMM := hid hmm
    clear HEN HAL HD1 HZ1 HH HR hmo hmm ha
    generalize w1.heap.size = X at HEN2 ⊢
    simp only [Act.put]
    go_loopg [] (a.left + 1) (fun gh wx => ∃ (cur : MSt) (E2 k : Nat) (tv : Value) (xs : List Value), gh = cur.left + 1 ∧ Hid (iterR tagStep (m0, none) cur = mTags a) ∧ Hid (En w B D T E X cur E2 (rowE (.string ⟨l.toArray⟩) tv (.slice none 0 0) (.string ⟨#[]⟩) false false 0 0 0) 107 2 tv k xs wx) ∧ 1 ≤ cur.sec ∧ k + cur.left ≤ 5000)
    case atStart => exact ⟨a, E1, 0, _, [], rfl, hid rfl, HEN2, by omega, by omega⟩
    case round =>
      obtain ⟨cur, E2, k, tv, xs, hgh, hit, HE2, hse, hk⟩ := hrel
      have HT := hid (HE2.out.dc.tag hse)
      have HGH := hid hgh
      have HS1 := hid hs1
      clear HEN2 hl5 hs1 hgh
      go_wp2_with fail
      refine HT.out.mono ?_
      rintro e w2 hx2
      have hoka := (adv_tag cur).ok HE2.out.dc.ok
      obtain ⟨E3, u, rfl, hR, HE3⟩ := HE2.out.call hoka hx2
      have HE3 := hid HE3
      have hg3 := HE3.out.dc.glob HG0.out
      rcases hmt : mTag cur with ⟨c, f | _ | _⟩
      · obtain ⟨tp, tc, rfl⟩ := rowE_slice HE2.out.own
        rw [hmt] at hR HE3
        obtain ⟨v3, hE3, rfl⟩ := hR
        have hst : tagStep cur = .inr (c, some f) := by unfold tagStep; rw [hmt]
        have htg : mTags a = (c, some f) := by rw [← hit.out]; exact iterR_done hst
        have hen : mEntry m = (c, .err f) := by
          unfold mEntry mAhead mHead
          rw [HMM.out]; simp only [htg]
        have hfi : (mFirst m).2 = .err f := by
          unfold mFirst mHead
          rw [HMM.out]; simp only [htg]
        have HEN := hid hen
        have HFI := hid hfi
        have HF := hid (fault_some hg3 hE3)
        obtain ⟨XE, YE, rfl, hx1, hx2, hx3⟩ := hE3
        clear hx1 hx2 hx3 hen hfi hg3 hst htg hmt hoka HT HE2
        go_wp2_with fail
        refine HF.out.mono ?_
        rintro e w3 ⟨rfl, hb3⟩
        have HE4 := hid (HE3.out.below hb3)
        clear hb3 HE3 HF
        have ht4 := HE4.out.there 5 4 (by show 9 ≤ 10; decide)
        have HE5 := HE4.out.mid 5 (.bool true) (.int .i64 f.line) (.int .i64 f.col) (.bool false)
        obtain ⟨w4, hw4⟩ : ∃ w4, w3.setCells X 5 [.bool true, .int .i64 f.line, .int .i64 f.col, .bool false] = w4 := ⟨_, rfl⟩
        rw [hw4] at HE5
        have x9 : w4.cell? ⟨X, 9, none⟩ = some (.int .i64 0) := cell_of_row w4 X 9 _ _ _ HE5.hx
        have xf : w4.frozen? ⟨X, 9, none⟩ = false := frozen_of_row w4 X 9 _ _ HE5.hx
        have HE6 := hid (HE5.set 9 (.int .i64 1))
        clear HE5
        go_upto_region 8 with (refine wpList_store_mid (op := ⟨none, .store 37 (.tmp 37) (.tmp 36), _, _, _, _⟩) rfl 37 _ _ rfl X 5 #[.bool true, .int .i64 f.line, .int .i64 f.col, .bool false] rfl rfl ht4 info37s (by simp [Value.oneCell']) ?_; rw [hw4])
        go_wp2_with (refine wpList_load_row (o := ⟨_, .load 48 (.tmp 5), _, _, _, _⟩) rfl 48 _ rfl X rfl 48 (rowE (.string ⟨l.toArray⟩) (.slice tp k tc) (.slice none 0 0) (.string ⟨#[]⟩) false true f.line f.col 1) (0, 0) _ HE6.out.hx Tryz.underlying48 rfl info48s ?_; refine wpList_store_row (o := ⟨none, .store 48 (.tmp 2) (.tmp 39), _, _, _, _⟩) rfl 48 _ _ rfl w.heap.size (rowE (.string ⟨l.toArray⟩) (.slice tp k tc) (.slice none 0 0) (.string ⟨#[]⟩) false true f.line f.col 1) rfl rfl 48 _ HE6.out.hv info48s rfl (by simp [rowE, Value.oneCell']) ?_)
        refine bodyPost_ret (res48 rfl rfl (setRow_heap _ _ _ _ _ _ HE6.out.hv) rfl) rfl ?_
        rw [HEN.out, HFI.out]
        exact ⟨_, E3, rfl, ⟨_, _, _, _, _, _, rfl, rfl⟩, HE6.out.dc.setRow (Nat.le_refl _) HE6.out.ve _⟩
      · rw [hmt] at hR HE3
        simp only [TagIs] at hR
        subst hR
        have hst : tagStep cur = .inr (c, none) := by unfold tagStep; rw [hmt]
        have htg : mTags a = (c, none) := by rw [← hit.out]; exact iterR_done hst
        have hc2 : c.sec = 2 := by have := tags_sec2 a (HS1.out) (by rw [htg]); rw [htg] at this; exact this
        have hah : mAhead m = mFields c := by
          unfold mAhead mHead
          rw [HMM.out]; simp only [htg]
        have hfi : (mFirst m).2 = (mField c).2 := by
          unfold mFirst mHead
          rw [HMM.out]; simp only [htg]
        have HAH := hid hah
        have HFI := hid hfi
        have hok3 : c.Ok := HE3.out.dc.ok
        have hlc : c.left ≤ 5000 := by have := hok3.2; have := hok3.1; omega
        clear hok3
        obtain ⟨tp, tc, rfl⟩ := rowE_slice HE2.out.own
        have HEF := hid (HE3.out.fresh 50 3)
        clear HE3 HE2 hst htg hah hfi hmt hoka HT hg3 hit HGH hk hse HMM H0 HS1
        generalize k = kt at HEF ⊢
        go_wp2_with fail
        go_loopg [] (c.left + 1) (fun gh wx => ∃ (cur : MSt) (E2 k : Nat) (fv : Value) (xs : List Value), gh = cur.left + 1 ∧ Hid (iterR fieldStep (m0, none) cur = mFields c) ∧ Hid (En w B D T E X cur E2 (rowE (.string ⟨l.toArray⟩) (.slice tp kt tc) fv (.string ⟨#[]⟩) false false 0 0 0) 50 3 fv k xs wx) ∧ 2 ≤ cur.sec ∧ k + cur.left ≤ 5000 ∧ Hid (FHead c cur k xs fv))
        case atStart => exact ⟨c, E3, 0, _, [], rfl, hid rfl, HEF, by omega, by omega, hid (.inl ⟨rfl, rfl, rfl⟩)⟩
        case round =>
          obtain ⟨cur, E4, k, fv, xs, hgh, hit, HE4, hse, hk, HFH⟩ := hrel
          have HT := hid (HE4.out.dc.fieldN hse)
          have HGH := hid hgh
          clear HEF hlc hc2 hgh
          go_wp2_with fail
          refine HT.out.mono ?_
          rintro e w2 hx2
          have hoka := (adv_field cur).ok HE4.out.dc.ok
          obtain ⟨E5, u, rfl, hR, HE5⟩ := HE4.out.call hoka hx2
          have HE5 := hid HE5
          have hg5 := HE5.out.dc.glob HG0.out
          clear hx2
          rcases hmt : mField cur with ⟨d, f | _ | q⟩
          · rw [hmt] at hR HE5
            obtain ⟨v3, hE3, rfl⟩ := hR
            obtain ⟨fp, fc, rfl⟩ := rowE_slice HE5.out.own
            have hst : fieldStep cur = .inr (d, some f) := by unfold fieldStep; rw [hmt]
            have hen : mEntry m = (d, .err f) := by
              unfold mEntry
              rw [HAH.out, show mFields c = (d, some f) from by rw [← hit.out]; exact iterR_done hst]
            have HEN := hid hen
            have hno : ∀ q, (mField cur).2 ≠ .some q := fun q => by rw [hmt]; simp
            have HNO := hid hno
            have HF := hid (fault_some hg5 hE3)
            obtain ⟨XE, YE, rfl, hx1, hx2, hx3⟩ := hE3
            clear hx1 hx2 hx3 hen hst hno hit hk hse hoka HT HE4 hmt hg5 HGH HAH
            go_wp2_with fail
            refine HF.out.mono ?_
            rintro e w3 ⟨rfl, hb3⟩
            have HE6 := hid (HE5.out.below hb3)
            clear hb3 HE5 HF
            have ht4 := HE6.out.there 5 4 (by show 9 ≤ 10; decide)
            have HX5 := HE6.out.mid 5 (.bool true) (.int .i64 f.line) (.int .i64 f.col) (.bool false)
            obtain ⟨w4, hw4⟩ : ∃ w4, w3.setCells X 5 [.bool true, .int .i64 f.line, .int .i64 f.col, .bool false] = w4 := ⟨_, rfl⟩
            rw [hw4] at HX5
            have x9 : w4.cell? ⟨X, 9, none⟩ = some (.int .i64 0) := cell_of_row w4 X 9 _ _ _ HX5.hx
            have xf : w4.frozen? ⟨X, 9, none⟩ = false := frozen_of_row w4 X 9 _ _ HX5.hx
            have HX6 := hid (HX5.set 9 (.int .i64 2))
            clear HX5
            go_upto_region 14 with (refine wpList_store_mid (op := ⟨none, .store 37 (.tmp 63) (.tmp 62), _, _, _, _⟩) rfl 37 _ _ rfl X 5 #[.bool true, .int .i64 f.line, .int .i64 f.col, .bool false] rfl rfl ht4 info37s (by simp [Value.oneCell']) ?_; rw [hw4])
            go_wp2_with (refine wpList_load_row (o := ⟨_, .load 48 (.tmp 5), _, _, _, _⟩) rfl 48 _ rfl X rfl 48 (rowE (.string ⟨l.toArray⟩) (.slice tp kt tc) (.slice fp k fc) (.string ⟨#[]⟩) false true f.line f.col 2) (0, 0) _ HX6.out.hx Tryz.underlying48 rfl info48s ?_; refine wpList_store_row (o := ⟨none, .store 48 (.tmp 2) (.tmp 65), _, _, _, _⟩) rfl 48 _ _ rfl w.heap.size (rowE (.string ⟨l.toArray⟩) (.slice tp kt tc) (.slice fp k fc) (.string ⟨#[]⟩) false true f.line f.col 2) rfl rfl 48 _ HX6.out.hv info48s rfl (by simp [rowE, Value.oneCell']) ?_)
            refine bodyPost_ret (res48 rfl rfl (setRow_heap _ _ _ _ _ _ HX6.out.hv) rfl) rfl ?_
            rw [HEN.out, HFI.out]
            exact ⟨_, E5, rfl, ⟨_, _, _, _, _, _, rfl, (fld_of HX6.out HFH.out HNO.out).keep (fun g hb _ => setRow_other _ _ g _ (by omega)) (by simp)⟩, HX6.out.dc.setRow (Nat.le_refl _) HX6.out.ve _⟩
          · rw [hmt] at hR HE5
            simp only [FieldIs] at hR
            subst hR
            obtain ⟨fp, fc, rfl⟩ := rowE_slice HE5.out.own
            have hst : fieldStep cur = .inr (d, none) := by unfold fieldStep; rw [hmt]
            have hen : mEntry m = mTime d := by
              unfold mEntry
              rw [HAH.out, show mFields c = (d, none) from by rw [← hit.out]; exact iterR_done hst]
            have HEN := hid hen
            have hds : 3 ≤ d.sec := by have := (field_sec cur).2.1 _ hmt; rw [this.1]; omega
            have hno : ∀ q, (mField cur).2 ≠ .some q := fun q => by rw [hmt]; simp
            have HNO := hid hno
            have HT5 := hid (HE5.out.dc.timeN hds)
            clear hst hen hds hno hit hk hse hoka HT HE4 hmt hg5 HGH HAH
            go_wp2_with fail
            refine HT5.out.mono ?_
            rintro e w6 hx6
            have hokd := (adv_time d).ok HE5.out.dc.ok
            obtain ⟨E6, u, rfl, hR, HE6⟩ := HE5.out.call hokd hx6
            have HE6 := hid HE6
            have hg6 := HE6.out.dc.glob HG0.out
            clear hx6 HE5 HT5 hokd
            rcases hti : mTime d with ⟨z, f | lt⟩
            · rw [hti] at hR HE6 HEN
              obtain ⟨v3, hE3, rfl⟩ := hR
              have HF := hid (fault_some hg6 hE3)
              obtain ⟨XE, YE, rfl, hx1, hx2, hx3⟩ := hE3
              clear hx1 hx2 hx3 hg6 hti
              go_wp2_with fail
              refine HF.out.mono ?_
              rintro e w7 ⟨rfl, hb3⟩
              have HE7 := hid (HE6.out.below hb3)
              clear hb3 HE6 HF
              have ht4 := HE7.out.there 5 4 (by show 9 ≤ 10; decide)
              have HX5 := HE7.out.mid 5 (.bool true) (.int .i64 f.line) (.int .i64 f.col) (.bool false)
              obtain ⟨w4, hw4⟩ : ∃ w4, w7.setCells X 5 [.bool true, .int .i64 f.line, .int .i64 f.col, .bool false] = w4 := ⟨_, rfl⟩
              rw [hw4] at HX5
              have x9 : w4.cell? ⟨X, 9, none⟩ = some (.int .i64 0) := cell_of_row w4 X 9 _ _ _ HX5.hx
              have xf : w4.frozen? ⟨X, 9, none⟩ = false := frozen_of_row w4 X 9 _ _ HX5.hx
              have HX6 := hid (HX5.set 9 (.int .i64 3))
              clear HX5
              go_upto_region 20 with (refine wpList_store_mid (op := ⟨none, .store 37 (.tmp 89) (.tmp 88), _, _, _, _⟩) rfl 37 _ _ rfl X 5 #[.bool true, .int .i64 f.line, .int .i64 f.col, .bool false] rfl rfl ht4 info37s (by simp [Value.oneCell']) ?_; rw [hw4])
              go_wp2_with (refine wpList_load_row (o := ⟨_, .load 48 (.tmp 5), _, _, _, _⟩) rfl 48 _ rfl X rfl 48 (rowE (.string ⟨l.toArray⟩) (.slice tp kt tc) (.slice fp k fc) (.string ⟨#[]⟩) false true f.line f.col 3) (0, 0) _ HX6.out.hx Tryz.underlying48 rfl info48s ?_; refine wpList_store_row (o := ⟨none, .store 48 (.tmp 2) (.tmp 91), _, _, _, _⟩) rfl 48 _ _ rfl w.heap.size (rowE (.string ⟨l.toArray⟩) (.slice tp kt tc) (.slice fp k fc) (.string ⟨#[]⟩) false true f.line f.col 3) rfl rfl 48 _ HX6.out.hv info48s rfl (by simp [rowE, Value.oneCell']) ?_)
              refine bodyPost_ret (res48 rfl rfl (setRow_heap _ _ _ _ _ _ HX6.out.hv) rfl) rfl ?_
              rw [HEN.out, HFI.out]
              exact ⟨_, E6, rfl, ⟨_, _, _, _, _, _, rfl, (fld_of HX6.out HFH.out HNO.out).keep (fun g hb _ => setRow_other _ _ g _ (by omega)) (by simp)⟩, HX6.out.dc.setRow (Nat.le_refl _) HX6.out.ve _⟩
            · rw [hti] at hR HE6 HEN
              obtain ⟨v3, hv3, rfl⟩ := hR
              have hcq : (convert 69 9 v3).run Tryz.prog w6 = .ok (.string ⟨lt.toArray⟩) w6 ∧ (binOp .neq 69 v3 (.slice none 0 0)).run Tryz.prog w6 = .ok (.bool (decide (lt ≠ []))) w6 := by
                rcases hv3 with ⟨rfl, rfl⟩ | ⟨hl, hb⟩
                · exact ⟨conv_nil w6, neq_nil w6 none 0 0⟩
                · refine ⟨run_bytes_string hb.is, ?_⟩
                  obtain ⟨b, o, c, rfl, _⟩ := hb
                  rw [neq_nil w6 _ _ _]; simp [hl]
              obtain ⟨bb, hbb⟩ : ∃ bb, decide (lt ≠ []) = bb := ⟨_, rfl⟩
              rw [hbb] at hcq
              obtain ⟨hcv3, hnq3⟩ := hcq
              have hgd := guard_slice .neq 69 (.tmp 94) (.slice none 0 0) v3 none 0 0
              have x3 : w6.cell? ⟨X, 3, none⟩ = some (.string ⟨#[]⟩) := cell_of_row w6 X 3 _ _ _ HE6.out.hx
              have x4 : w6.cell? ⟨X, 4, none⟩ = some (.bool false) := cell_of_row w6 X 4 _ _ _ HE6.out.hx
              have xf : ∀ o, w6.frozen? ⟨X, o, none⟩ = false := fun o => frozen_of_row w6 X o _ _ HE6.out.hx
              have HX6 := hid ((HE6.out.set 3 (.string ⟨lt.toArray⟩)).set 4 (.bool bb))
              clear hv3 hg6 hti HE6
              go_upto_region 22 with fail
              go_wp2_with (refine wpList_load_row (o := ⟨_, .load 48 (.tmp 5), _, _, _, _⟩) rfl 48 _ rfl X rfl 48 (rowE (.string ⟨l.toArray⟩) (.slice tp kt tc) (.slice fp k fc) (.string ⟨lt.toArray⟩) bb false 0 0 0) (0, 0) _ HX6.out.hx Tryz.underlying48 rfl info48s ?_; refine wpList_store_row (o := ⟨none, .store 48 (.tmp 2) (.tmp 98), _, _, _, _⟩) rfl 48 _ _ rfl w.heap.size (rowE (.string ⟨l.toArray⟩) (.slice tp kt tc) (.slice fp k fc) (.string ⟨lt.toArray⟩) bb false 0 0 0) rfl rfl 48 _ HX6.out.hv info48s rfl (by simp [rowE, Value.oneCell']) ?_)
              refine bodyPost_ret (res48 rfl rfl (setRow_heap _ _ _ _ _ _ HX6.out.hv) rfl) rfl ?_
              rw [HEN.out, HFI.out]
              refine ⟨_, E6, rfl, ⟨⟨l.toArray⟩, tp, kt, tc, .slice fp k fc, 0, ?_, (fld_of HX6.out HFH.out HNO.out).keep (fun g hb _ => setRow_other _ _ g _ (by omega)) (by simp)⟩, HX6.out.dc.setRow (Nat.le_refl _) HX6.out.ve _⟩
              show Value.agg (rowE _ _ _ _ bb false 0 0 0) = Value.agg (rowE _ _ _ _ (decide (lt ≠ [])) false 0 0 0)
              rw [hbb]
          · rw [hmt] at hR HE5
            obtain ⟨l1, l2, u1, u2, hb1, hb2, hkr, rfl⟩ := hR
            obtain ⟨rfl, rfl⟩ := hkr rfl
            have hc1 := run_bytes_string hb1
            have hc2 := run_bytes_string hb2
            have hkd : q.kind ≤ 5 := field_kind _ _ _ hmt
            have hcv3 : (convert 78 3 (.int .u8 (q.kind : Int))).run Tryz.prog w2 = .ok (.int .i64 (q.kind : Int)) w2 := conv_kind w2 q.kind hkd
            obtain ⟨b1, o1, c1, rfl, _⟩ := hb1
            obtain ⟨b2, o2, c2, rfl, _⟩ := hb2
            have hst : fieldStep cur = .inl d := by unfold fieldStep; rw [hmt]
            have hit2 : iterR fieldStep (m0, none) d = mFields c := by rw [← hit.out]; exact (iterR_more hst).symm
            have HIT2 := hid hit2
            have HLESS := hid (field_less hmt)
            have HSEC2 : Hid (2 ≤ d.sec) := hid (by have := (field_sec cur).1 _ _ hmt; omega)
            have hx1 : w2.cell? ⟨X, 2, none⟩ = some fv := cell_of_row w2 X 2 _ _ _ HE5.out.hx
            have hone := run_oneE (z := .agg zF) Tryz.underlying46 info50z (by decide) (by decide) w2 #[.string ⟨q.key.toArray⟩, .int .i64 (q.kind : Int), .string ⟨q.raw.toArray⟩] rfl
            have hown : (w2.alloc (.cells #[.string ⟨q.key.toArray⟩, .int .i64 (q.kind : Int), .string ⟨q.raw.toArray⟩] 50)).ownsRow (w.heap.size + 1) 50 3 fv k xs := rowE_keep HE5.out.own fun g hg => Below.heap_alloc _ _ _ (rowE_lt HE5.out.own g hg).2
            have hvl := lt_of_block HE5.out.hv
            obtain ⟨fv', w3, happ, hown3, hgr3, hob3⟩ := run_appE Tryz.underlying46 info50z rfl (by decide) (by decide) _ 46 hown w2.heap.size 1 1 #[.string ⟨q.key.toArray⟩, .int .i64 (q.kind : Int), .string ⟨q.raw.toArray⟩] (heap_alloc_new _ _) rfl (by simp [Value.oneCell']) (by omega) (by simp; omega)
            simp only [World.size_alloc] at hob3
            have HE6 := hid (HE5.out.grow hown3 hgr3 hob3)
            obtain ⟨fp', fc', rfl⟩ := rowE_slice hown3
            have hx3 : w3.cell? ⟨X, 2, none⟩ = some fv := cell_of_row w3 X 2 _ _ _ HE6.out.hx
            have hf3 : w3.frozen? ⟨X, 2, none⟩ = false := frozen_of_row w3 X 2 _ _ HE6.out.hx
            have HE7 := hid (HE6.out.set 2 (.slice fp' (k + 1) fc'))
            have HFH2 : Hid (FHead c d (k + 1) (xs ++ #[Value.string ⟨q.key.toArray⟩, .int .i64 (q.kind : Int), .string ⟨q.raw.toArray⟩].toList) (.slice fp' (k + 1) fc')) := hid (by
              rcases HFH.out with ⟨h1, h2, h3⟩ | ⟨h1, d2, ys, h2, h3⟩
              · refine .inr ⟨by omega, q, [], by rw [← h2, hmt], ?_⟩
                have hx0 : xs = [] := by
                  have := HE5.out.own.1
                  rw [h1] at this
                  exact List.length_eq_zero_iff.1 (by omega)
                rw [hx0]; rfl
              · refine .inr ⟨by omega, d2, ys ++ #[Value.string ⟨q.key.toArray⟩, .int .i64 (q.kind : Int), .string ⟨q.raw.toArray⟩].toList, h2, ?_⟩
                rw [h3, List.append_assoc])
            clear hown3 hgr3 hob3 hown HE5 HE6 hst hit2 hmt hoka HT HE4 hg5 hit hse HFH
            go_wp2_with (refine wpList_val (o := ⟨some 78, .call { callee := .builtin .append, args := #[.tmp 69, .tmp 77], argTypes := #[46, 46] }, 46, _, _, _⟩) rfl (x_appE rfl rfl rfl happ) ?_)
            go_roundg (d.left + 1)
            case measure => have := HGH.out; have := HLESS.out; omega
            case rel => exact ⟨d, E5, k + 1, _, _, rfl, HIT2, HE7, HSEC2.out, by have := HLESS.out; omega, HFH2⟩
      · rw [hmt] at hR HE3
        obtain ⟨l1, u1, l2, u2, hb1, hb2, rfl⟩ := hR
        have hc1 := run_bytes_string hb1
        have hc2 := run_bytes_string hb2
        obtain ⟨b1, o1, c1, rfl, _⟩ := hb1
        obtain ⟨b2, o2, c2, rfl, _⟩ := hb2
        have hst : tagStep cur = .inl c := by unfold tagStep; rw [hmt]
        have hit2 : iterR tagStep (m0, none) c = mTags a := by rw [← hit.out]; exact (iterR_more hst).symm
        have HIT2 := hid hit2
        have hless := tag_less hmt
        have hsec2 : 1 ≤ c.sec := tag_sec hmt
        have hx1 : w2.cell? ⟨X, 1, none⟩ = some tv := cell_of_row w2 X 1 _ _ _ HE3.out.hx
        have hone := run_oneE (z := .agg zT) Tryz.underlying45 info107z (by decide) (by decide) w2 #[.string ⟨l1.toArray⟩, .string ⟨l2.toArray⟩] rfl
        have hown : (w2.alloc (.cells #[.string ⟨l1.toArray⟩, .string ⟨l2.toArray⟩] 107)).ownsRow (w.heap.size + 1) 107 2 tv k xs := rowE_keep HE3.out.own fun g hg => Below.heap_alloc _ _ _ (rowE_lt HE3.out.own g hg).2
        have hvl := lt_of_block HE3.out.hv
        obtain ⟨tv', w3, happ, hown3, hgr3, hob3⟩ := run_appE Tryz.underlying45 info107z rfl (by decide) (by decide) _ 45 hown w2.heap.size 1 1 #[.string ⟨l1.toArray⟩, .string ⟨l2.toArray⟩] (heap_alloc_new _ _) rfl (by simp [Value.oneCell']) (by omega) (by simp; omega)
        simp only [World.size_alloc] at hob3
        have HE4 := hid (HE3.out.grow hown3 hgr3 hob3)
        obtain ⟨tp', tc', rfl⟩ := rowE_slice hown3
        have hx3 : w3.cell? ⟨X, 1, none⟩ = some tv := cell_of_row w3 X 1 _ _ _ HE4.out.hx
        have hf3 : w3.frozen? ⟨X, 1, none⟩ = false := frozen_of_row w3 X 1 _ _ HE4.out.hx
        have HE5 := hid (HE4.out.set 1 (.slice tp' (k + 1) tc'))
        have HLESS := hid hless
        have HSEC2 := hid hsec2
        clear hown3 hgr3 hob3 hown HE3 HE4 hst hit2 hless hsec2 hmt hoka HT HE2 hg3
        go_wp2_with (refine wpList_val (o := ⟨some 50, .call { callee := .builtin .append, args := #[.tmp 43, .tmp 49], argTypes := #[45, 45] }, 45, _, _, _⟩) rfl (x_appE rfl rfl rfl happ) ?_)
        go_roundg (c.left + 1)
        case measure => have := HGH.out; have := HLESS.out; omega
        case rel => exact ⟨c, E3, k + 1, _, _, rfl, HIT2, HE5, HSEC2.out, by have := HLESS.out; omega⟩
end
end Go.Proofs.YtejlokdcocacaaaGreatDoor
