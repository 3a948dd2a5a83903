/- The reference's entry. -/
import Derived.Test.YtejlokdcocacaaaGreatDoorKSpecXo
import Derived.Test.YtejlokdcocacaaaGreatDoorKSpecX
import Derived.Test.YtejlokdcocacaaaGreatDoorKSpecY
import Derived.Test.YtejlokdcocacaaaGreatDoorKSpecO
import Derived.Test.YtejlokdcocacaaaGreatDoorKSpecT
import Derived.Test.YtejlokdcocacaaaGreatDoorKSpecZ
import Derived.Test.YtejlokdcocacaaaGreatDoorKAllR
namespace Go.Proofs.YtejlokdcocacaaaGreatDoor
open Go.RowKit Go.Proofs.YtejlokdcocacaaaGreatDoorW.PrintLast

theorem Sp.left {s : ByteArray} {i p : Nat} {m : MSt} (h : Sp s i p m) : m.left = s.size - i := by rw [← rest_length, h.rest, restOf_len]

/-- What lEntry leaves. -/
def LeP (R : Nat) (s : ByteArray) (w : World) (m : MSt) (fr : Nat) (e : Ending) (w' : World) : Prop :=
  ∃ (cs : Array Value) (i : Nat), e = .returned (.agg cs) ∧ cs.size = 10 ∧ (∀ u ∈ cs.toList, u.oneCell' = true) ∧ Sp s i (mEntry m).1.sec (mEntry m).1 ∧ IsRd w' R s i (mEntry m).1.sec fr ∧ Rds R w w'

theorem rowE_one (nm tm : ByteArray) (tp fp : Option Addr) (tn tc fn fc : Nat) (has fi : Bool) (x y a : Int) : (rowE (.string nm) (.slice tp tn tc) (.slice fp fn fc) (.string tm) has fi x y a).size = 10 ∧ ∀ u ∈ (rowE (.string nm) (.slice tp tn tc) (.slice fp fn fc) (.string tm) has fi x y a).toList, u.oneCell' = true := by
  refine ⟨rfl, fun u hu => ?_⟩
  simp only [rowE, List.mem_cons, List.not_mem_nil, or_false] at hu
  rcases hu with rfl | rfl | rfl | rfl | rfl | rfl | rfl | rfl | rfl | rfl <;> rfl

/-- The end: the row handed back. -/
theorem LeP.mk {w w' : World} {R : Nat} {s : ByteArray} {i p fr X : Nat} {m c : MSt} {e z n : Nat} {v : Value} {xs : List Value} {nm tm : ByteArray} {tp fp : Option Addr} {tn tc fn fc : Nat} {has fi : Bool} {x y a : Int}
    (h : Ev w R s i p fr X (rowE (.string nm) (.slice tp tn tc) (.slice fp fn fc) (.string tm) has fi x y a) e z v n xs w') (hm : (mEntry m).1 = c) (hsp : Sp s i p c) :
    LeP R s w m fr (.returned (.agg (rowE (.string nm) (.slice tp tn tc) (.slice fp fn fc) (.string tm) has fi x y a))) w' := by
  have h1 := rowE_one nm tm tp fp tn tc fn fc has fi x y a
  obtain rfl : c.sec = p := hsp.2.2
  refine ⟨_, i, rfl, h1.1, h1.2, by rw [hm]; exact hsp, by rw [hm]; exact h.rd, h.fm⟩

theorem w_there {w : World} {X : Nat} {cs : Array Value} (h : w.heap[X]? = some (.cells cs 48 (0, 0))) (j k : Nat) (hk : j + k ≤ cs.size) : w.there X j k := fun q hq =>
  ⟨by rw [cell_of_row w X (j + q) _ _ _ h, Array.getElem?_eq_getElem (by omega)]; rfl, frozen_of_row w X (j + q) _ _ h⟩

theorem tag_some_sec {cur c : MSt} (h : mTag cur = (c, .some)) : c.sec = 1 ∨ c.sec = 2 := by
  unfold mTag at h
  split at h
  · simp at h
  rename_i h1
  have h1 : cur.sec = 1 := by omega
  split at h
  · simp at h
  simp only at h
  split at h
  · simp at h
  split at h
  · simp at h
  split at h
  · simp at h; rw [← h]; exact .inr rfl
  · have hc := (mComma_sec (((cur.tk tagKeyP tagE).adv 1).tk tagValP tagE)).2
    rcases hm : mComma (((cur.tk tagKeyP tagE).adv 1).tk tagValP tagE) with ⟨e, _ | f⟩ <;> rw [hm] at h hc
    · simp at h
      rw [← h]
      exact .inl ((hc rfl).trans h1)
    · simp at h

theorem time_any {w : World} {R : Nat} {s : ByteArray} {i p fr : Nat} {m : MSt} (h : IsRd w R s i p fr) (hs : s.size ≤ 1000) (hp : 3 ≤ p) (hfr : fr ≤ i) (hm : Sp s i p m) :
    Calls Tryz.prog 49 #[.pointer (some ⟨R, 0, none⟩)] w (NameR R s w (mTime m).1 (mTime m).2.bad fr) := by
  by_cases h3 : p = 3
  · subst h3
    exact time_spec h hs hfr hm
  · exact time_early h (by omega) hfr hm

set_option maxHeartbeats 8000000 in
set_option maxRecDepth 100000 in
theorem lentry_spec {w : World} {R : Nat} {s : ByteArray} {i fr : Nat} {m : MSt} (h : IsRd w R s i 0 fr) (hs : s.size ≤ 1000) (hfr : fr ≤ i) (hm : Sp s i 0 m) :
    Calls Tryz.prog 22 #[.pointer (some ⟨R, 0, none⟩)] w (LeP R s w m fr) := by
  obtain ⟨X, hX⟩ : ∃ X, w.heap.size = X := ⟨_, rfl⟩
  have h1 := Ev.begin h
  rw [hX] at h1
  have HNM := hid (name_spec h1.rd hs hfr hm)
  have HE := hid h1
  have H0 := hid hm.2.2
  have hXl : X < (w.alloc (.cells zE 48)).heap.size := lt_of_block h1.hx
  have heq := fun (w : World) (a : Option Addr) (n c : Nat) => Lib.run_eql_slice_nil (P := Tryz.prog) w 69 5 a n c 0 0 Tryz.underlying69
  clear h h1
  unfold zE at HNM
  go_enter Tryz.func22, Tryz.ntmps22
  go_wp2_with fail
  refine HNM.out.mono ?_
  rintro e w1 ⟨i1, nm, ok, x, y, rfl, hsp, hfr1, hrd, hfm⟩
  have HE1 := hid (HE.out.call hrd hfm)
  have HSP := hid hsp
  have x0 : w1.cell? ⟨X, 0, none⟩ = some (.string ⟨#[]⟩) := cell_of_row w1 X 0 _ _ _ HE1.out.hx
  have xf : ∀ o, w1.frozen? ⟨X, o, none⟩ = false := fun o => frozen_of_row w1 X o _ _ HE1.out.hx
  have HE2 := hid (HE1.out.set 0 (.string nm))
  have ht := HE2.out.there 5 4 (by show 9 ≤ 10; decide)
  obtain ⟨o, ho⟩ : ∃ o, (mMeas m).2 = o := ⟨_, rfl⟩
  obtain ⟨a, ha⟩ : ∃ a, (mMeas m).1 = a := ⟨_, rfl⟩
  have hmm : mMeas m = (a, o) := by rw [← ha, ← ho]
  rw [ho]
  rw [ha] at HSP HE1 HE2
  have HMM := hid hmm
  have HE3 := HE2.out.mid 5 (.bool o.isSome) (.int .i64 x) (.int .i64 y) (.bool false)
  obtain ⟨w3, hw3⟩ : ∃ w3, (w1.setCell ⟨X, 0, none⟩ (.string nm)).setCells X 5 [.bool o.isSome, .int .i64 x, .int .i64 y, .bool false] = w3 := ⟨_, rfl⟩
  rw [hw3] at HE3
  have HE3 : Hid (Ev w R s i1 a.sec fr X (rowE (.string nm) (.slice none 0 0) (.slice none 0 0) (.string ⟨#[]⟩) false o.isSome x y 0) 107 2 (.slice none 0 0) 0 [] w3) := hid HE3
  have HSC := hid (meas_sec m H0.out)
  rw [hmm] at HSC
  clear hsp hrd hfm HNM HE HE1 HE2 ho ha hmm
  cases o with
  | some f =>
    have hen : (mEntry m).1 = a := by unfold mEntry mAhead mHead; rw [HMM.out]
    have HEN := hid hen
    have hw3 : (w1.setCell ⟨X, 0, none⟩ (.string nm)).setCells X 5 [.bool true, .int .i64 x, .int .i64 y, .bool false] = w3 := hw3
    have x5 : w3.cell? ⟨X, 5, none⟩ = some (.bool true) := cell_of_row w3 X 5 _ _ _ HE3.out.hx
    clear hen
    go_upto_region 2 with (refine wpList_store_mid (op := ⟨none, .store 37 (.tmp 16) (.tmp 14), _, _, _, _⟩) rfl 37 _ _ rfl X 5 #[.bool true, .int .i64 x, .int .i64 y, .bool false] rfl rfl ht info37s (by simp [Value.oneCell']) ?_; rw [hw3])
    clear ht x0 xf hw3
    go_wp2_with (first | (refine wpList_load_row (o := ⟨_, .load 48 (.tmp 2), _, _, _, _⟩) rfl 48 _ rfl X rfl 48 (rowE (.string nm) (.slice none 0 0) (.slice none 0 0) (.string ⟨#[]⟩) false true x y 0) (0, 0) _ HE3.out.hx Tryz.underlying48 rfl info48s ?_) | (refine wpList_store_row (o := ⟨none, .store 48 (.tmp 2) (.tmp 20), _, _, _, _⟩) rfl 48 _ _ rfl X (rowE (.string nm) (.slice none 0 0) (.slice none 0 0) (.string ⟨#[]⟩) false true x y 0) rfl rfl 48 _ HE3.out.hx info48s rfl (by simp [rowE, Value.oneCell']) ?_))
    have HE4 := HE3.out.row (rowE (.string nm) (.slice none 0 0) (.slice none 0 0) (.string ⟨#[]⟩) false true x y 0)
    refine bodyPost_ret (res48 rfl rfl HE4.hx rfl) rfl ?_
    exact LeP.mk HE4 HEN.out HSP.out
  | none =>
    have hs1 : a.sec = 1 := HSC.out.1 rfl
    have hw3 : (w1.setCell ⟨X, 0, none⟩ (.string nm)).setCells X 5 [.bool false, .int .i64 x, .int .i64 y, .bool false] = w3 := hw3
    have x5 : w3.cell? ⟨X, 5, none⟩ = some (.bool false) := cell_of_row w3 X 5 _ _ _ HE3.out.hx
    have hal : a.left ≤ 1000 := by rw [HSP.out.left]; omega
    have HS1 := hid hs1
    clear hs1
    go_upto_region 2 with (refine wpList_store_mid (op := ⟨none, .store 37 (.tmp 16) (.tmp 14), _, _, _, _⟩) rfl 37 _ _ rfl X 5 #[.bool false, .int .i64 x, .int .i64 y, .bool false] rfl rfl ht info37s (by simp [Value.oneCell']) ?_; rw [hw3])
    clear ht x0 xf hw3
    go_wp2_with fail
    clear x5
    go_loopg [] (a.left + 1) (fun gh wx => ∃ (cur : MSt) (j k : Nat) (tv : Value) (xs : List Value), gh = cur.left + 1 ∧ Hid (iterR tagStep (m0, none) cur = mTags a) ∧ Hid (Ev w R s j cur.sec fr X (rowE (.string nm) tv (.slice none 0 0) (.string ⟨#[]⟩) false false x y 0) 107 2 tv k xs wx) ∧ Hid (Sp s j cur.sec cur) ∧ fr ≤ j ∧ (cur.sec = 1 ∨ cur.sec = 2) ∧ k + cur.left ≤ 1000)
    case atStart => exact ⟨a, i1, 0, _, [], rfl, hid rfl, HE3, HSP, hfr1, .inl HS1.out, by omega⟩
    case round =>
      obtain ⟨cur, j, k, tv, xs, hgh, hit, HEL, HSL, hfj, hse, hk⟩ := hrel
      have HGH := hid hgh
      have hT := tag_any tag_spec HEL.out.rd hs hse hfj HSL.out
      have HSE := hid hse
      clear HE3 HSP hgh hal
      rcases hmt : mTag cur with ⟨c, f | _ | _⟩
      · as_aux_lemma =>
          obtain ⟨tp, tc, rfl⟩ := rowE_slice HEL.out.own
          have hT : Calls Tryz.prog 47 #[.pointer (some ⟨R, 0, none⟩)] wr (TagP R s wr c true false fr) := by rw [hmt] at hT; exact hT
          have HT := hid hT
          clear hT
          have hst : tagStep cur = .inr (c, some f) := by unfold tagStep; rw [hmt]
          have htg : mTags a = (c, some f) := by rw [← hit.out]; exact iterR_done hst
          have hen : (mEntry m).1 = c := by unfold mEntry mAhead mHead; rw [HMM.out]; simp only [htg]
          have HEN := hid hen
          clear hst htg hen hmt
          go_wp2_with fail
          refine HT.out.mono ?_
          rintro e w2 ⟨j2, kk, vv, x2, y2, rfl, hsp2, hfr2, hrd2, hfm2⟩
          have HEV := hid (HEL.out.call hrd2 hfm2)
          have HSP2 := hid hsp2
          have hXl2 : X < w2.heap.size := lt_of_block HEV.out.hx
          obtain ⟨P, hP⟩ : ∃ P, w2.heap.size = P := ⟨_, rfl⟩
          have hXP : X < P := by omega
          have hp0 : ((w2.alloc (.cells zT 107)).alloc z37).heap[P]? = some (.cells zT 107 (0, 0)) := by rw [← hP]; exact (Below.heap_alloc (w2.alloc (.cells zT 107)) z37 _ (by simp)).trans (heap_alloc_new _ _)
          have hf0 : ((w2.alloc (.cells zT 107)).alloc z37).heap[P + 1]? = some z37 := by rw [← hP]; exact heap_alloc2_new _ _ _
          have hf1 : (((w2.alloc (.cells zT 107)).alloc z37).setRow P #[.string kk, .string vv]).heap[P + 1]? = some z37 := (setRow_other _ _ _ _ (by omega)).trans hf0
          have hb2 : Below w2.heap.size w2 ((((w2.alloc (.cells zT 107)).alloc z37).setRow P #[.string kk, .string vv]).setRow (P + 1) (F37 true x2 y2)) := below_setRow (below_setRow (((Below.refl _ _).alloc (Nat.le_refl _) _).alloc (by simp) _) (by omega) _) (by omega) _
          have HEV3 := HEV.out.below hb2
          have hfw := setRow_heap _ (P + 1) _ (F37 true x2 y2) _ _ hf1
          have hpw : ((((w2.alloc (.cells zT 107)).alloc z37).setRow P #[.string kk, .string vv]).setRow (P + 1) (F37 true x2 y2)).heap[P]? = some (.cells #[.string kk, .string vv] 107 (0, 0)) := (setRow_other _ _ _ _ (by omega)).trans (setRow_heap _ P _ #[.string kk, .string vv] _ _ hp0)
          have HP0 := hid hp0
          have HF1 := hid hf1
          obtain ⟨w4, hw4⟩ : ∃ w4, (((w2.alloc (.cells zT 107)).alloc z37).setRow P #[.string kk, .string vv]).setRow (P + 1) (F37 true x2 y2) = w4 := ⟨_, rfl⟩
          rw [hw4] at HEV3 hfw hpw
          have HEV3 := hid HEV3
          have HFW := hid hfw
          have HPW := hid hpw
          have f0 : w4.cell? ⟨P + 1, 0, none⟩ = some (.bool true) := cell_of_row w4 (P + 1) 0 _ _ _ hfw
          clear hsp2 hrd2 hfm2 hp0 hf0 hf1 hb2 hfw hpw HEL HEV
          go_upto_region 5 with (first | (refine wpList_store_row (o := ⟨none, .store 107 (.tmp 3) (.tmp 24), _, _, _, _⟩) rfl 107 _ _ rfl P #[.string kk, .string vv] rfl rfl 107 _ HP0.out info107s rfl (by simp [Value.oneCell']) ?_) | (refine wpList_store_row (o := ⟨none, .store 37 (.tmp 5) (.tmp 26), _, _, _, _⟩) rfl 37 _ _ rfl (P + 1) (F37 true x2 y2) rfl rfl 37 _ HF1.out info37t rfl (by simp [F37, Value.oneCell']) ?_; change wpList _ _ _ _ _ ((((w2.alloc (.cells zT 107)).alloc z37).setRow P #[.string kk, .string vv]).setRow (P + 1) (F37 true x2 y2)); rw [hw4]))
          clear hw4 HP0 HF1 hP
          go_wp2_with fail
          refine region22_6 (X := X) (F := P + 1) (cs := (rowE (.string nm) (.slice tp k tc) (.slice none 0 0) (.string ⟨#[]⟩) false false x y 0)) (b := true) (x := x2) (y := y2) (fun _ _ _ _ _ h => h) rfl rfl rfl HEV3.out.hx rfl HFW.out (by omega) ?_
          have HE6 : Hid (Ev w R s j2 c.sec fr X (rowE (.string nm) (.slice tp k tc) (.slice none 0 0) (.string ⟨#[]⟩) false true x2 y2 1) _ _ _ _ _ _) := hid ((HEV3.out.drew.set 9 (.int .i64 1)).mid 5 (.bool true) (.int .i64 x2) (.int .i64 y2) (.bool false))
          simp only [putAll, Act.put, List.setIfInBounds_toArray, List.set_cons_zero, List.set_cons_succ]
          generalize (w4.drew.setCell ⟨X, 9, none⟩ (.int .i64 1)).setCells X 5 [.bool true, .int .i64 x2, .int .i64 y2, .bool false] = w6 at HE6 ⊢
          clear f0 HFW HPW HEV3
          go_wp2_with (first | (refine wpList_load_row (o := ⟨_, .load 48 (.tmp 2), _, _, _, _⟩) rfl 48 _ rfl X rfl 48 (rowE (.string nm) (.slice tp k tc) (.slice none 0 0) (.string ⟨#[]⟩) false true x2 y2 1) (0, 0) _ HE6.out.hx Tryz.underlying48 rfl info48s ?_) | (refine wpList_store_row (o := ⟨none, .store 48 (.tmp 2) (.tmp 32), _, _, _, _⟩) rfl 48 _ _ rfl X (rowE (.string nm) (.slice tp k tc) (.slice none 0 0) (.string ⟨#[]⟩) false true x2 y2 1) rfl rfl 48 _ HE6.out.hx info48s rfl (by simp [rowE, Value.oneCell']) ?_))
          have HE7 := HE6.out.row (rowE (.string nm) (.slice tp k tc) (.slice none 0 0) (.string ⟨#[]⟩) false true x2 y2 1)
          refine bodyPost_ret (res48 rfl rfl HE7.hx rfl) rfl ?_
          exact LeP.mk HE7 HEN.out HSP2.out
      ·
        obtain ⟨tp, tc, rfl⟩ := rowE_slice HEL.out.own
        have hT : Calls Tryz.prog 47 #[.pointer (some ⟨R, 0, none⟩)] wr (TagP R s wr c false false fr) := by rw [hmt] at hT; exact hT
        have HT := hid hT
        clear hT
        have hst : tagStep cur = .inr (c, none) := by unfold tagStep; rw [hmt]
        have htg : mTags a = (c, none) := by rw [← hit.out]; exact iterR_done hst
        have hc2 : c.sec = 2 := by have := tags_sec2 a HS1.out (by rw [htg]); rw [htg] at this; exact this
        have hah : mAhead m = mFields c := by unfold mAhead mHead; rw [HMM.out]; simp only [htg]
        have HAH := hid hah
        have HC2 := hid hc2
        clear hst htg hc2 hah hmt
        go_wp2_with fail
        refine HT.out.mono ?_
        rintro e w2 ⟨j2, kk, vv, x2, y2, rfl, hsp2, hfr2, hrd2, hfm2⟩
        have HEV := hid (HEL.out.call hrd2 hfm2)
        have HSP2 := hid hsp2
        have hXl2 : X < w2.heap.size := lt_of_block HEV.out.hx
        obtain ⟨P, hP⟩ : ∃ P, w2.heap.size = P := ⟨_, rfl⟩
        have hXP : X < P := by omega
        have hp0 : ((w2.alloc (.cells zT 107)).alloc z37).heap[P]? = some (.cells zT 107 (0, 0)) := by rw [← hP]; exact (Below.heap_alloc (w2.alloc (.cells zT 107)) z37 _ (by simp)).trans (heap_alloc_new _ _)
        have hf0 : ((w2.alloc (.cells zT 107)).alloc z37).heap[P + 1]? = some z37 := by rw [← hP]; exact heap_alloc2_new _ _ _
        have hf1 : (((w2.alloc (.cells zT 107)).alloc z37).setRow P #[.string kk, .string vv]).heap[P + 1]? = some z37 := (setRow_other _ _ _ _ (by omega)).trans hf0
        have hb2 : Below w2.heap.size w2 ((((w2.alloc (.cells zT 107)).alloc z37).setRow P #[.string kk, .string vv]).setRow (P + 1) (F37 false x2 y2)) := below_setRow (below_setRow (((Below.refl _ _).alloc (Nat.le_refl _) _).alloc (by simp) _) (by omega) _) (by omega) _
        have HEV3 := HEV.out.below hb2
        have hfw := setRow_heap _ (P + 1) _ (F37 false x2 y2) _ _ hf1
        have hpw : ((((w2.alloc (.cells zT 107)).alloc z37).setRow P #[.string kk, .string vv]).setRow (P + 1) (F37 false x2 y2)).heap[P]? = some (.cells #[.string kk, .string vv] 107 (0, 0)) := (setRow_other _ _ _ _ (by omega)).trans (setRow_heap _ P _ #[.string kk, .string vv] _ _ hp0)
        have HP0 := hid hp0
        have HF1 := hid hf1
        obtain ⟨w4, hw4⟩ : ∃ w4, (((w2.alloc (.cells zT 107)).alloc z37).setRow P #[.string kk, .string vv]).setRow (P + 1) (F37 false x2 y2) = w4 := ⟨_, rfl⟩
        rw [hw4] at HEV3 hfw hpw
        have HEV3 := hid HEV3
        have HFW := hid hfw
        have HPW := hid hpw
        have f0 : w4.cell? ⟨P + 1, 0, none⟩ = some (.bool false) := cell_of_row w4 (P + 1) 0 _ _ _ hfw
        clear hsp2 hrd2 hfm2 hp0 hf0 hf1 hb2 hfw hpw HEL HEV
        go_upto_region 5 with (first | (refine wpList_store_row (o := ⟨none, .store 107 (.tmp 3) (.tmp 24), _, _, _, _⟩) rfl 107 _ _ rfl P #[.string kk, .string vv] rfl rfl 107 _ HP0.out info107s rfl (by simp [Value.oneCell']) ?_) | (refine wpList_store_row (o := ⟨none, .store 37 (.tmp 5) (.tmp 26), _, _, _, _⟩) rfl 37 _ _ rfl (P + 1) (F37 false x2 y2) rfl rfl 37 _ HF1.out info37t rfl (by simp [F37, Value.oneCell']) ?_; change wpList _ _ _ _ _ ((((w2.alloc (.cells zT 107)).alloc z37).setRow P #[.string kk, .string vv]).setRow (P + 1) (F37 false x2 y2)); rw [hw4]))
        clear hw4 HP0 HF1 hP
        have HEF := hid (HEV3.out.fresh 50 3)
        have hlc : c.left ≤ 1000 := by rw [HSP2.out.left]; omega
        clear HEV3 HPW HFW hit HGH hk hse HSE
        generalize k = kt at HEF ⊢
        go_wp2_with fail
        clear f0
        go_loopg [] (c.left + 1) (fun gh wx => ∃ (cur : MSt) (j k : Nat) (fv : Value) (xs : List Value), gh = cur.left + 1 ∧ Hid (iterR fieldStep (m0, none) cur = mFields c) ∧ Hid (Ev w R s j cur.sec fr X (rowE (.string nm) (.slice tp kt tc) fv (.string ⟨#[]⟩) false false x y 0) 50 3 fv k xs wx) ∧ Hid (Sp s j cur.sec cur) ∧ fr ≤ j ∧ 2 ≤ cur.sec ∧ k + cur.left ≤ 1000)
        case atStart => exact ⟨c, j2, 0, _, [], rfl, hid rfl, HEF, HSP2, hfr2, by have := HC2.out; omega, by omega⟩
        case round =>
          clear HEF hlc HSP2 hfr2 hXP hXl2
          obtain ⟨cur, j, k, fv, xs, hgh, hit, HEL, HSL, hfj, hse, hk⟩ := hrel
          have HGH := hid hgh
          have hT := field_any field_spec HEL.out.rd hs hse hfj HSL.out
          clear hgh
          rcases hmt : mField cur with ⟨d, f | _ | q⟩
          · as_aux_lemma =>
              obtain ⟨fp, fc, rfl⟩ := rowE_slice HEL.out.own
              have hT : Calls Tryz.prog 48 #[.pointer (some ⟨R, 0, none⟩)] wr (FieldP R s wr d true false fr) := by rw [hmt] at hT; exact hT
              have HT := hid hT
              clear hT
              have hst : fieldStep cur = .inr (d, some f) := by unfold fieldStep; rw [hmt]
              have hen : (mEntry m).1 = d := by unfold mEntry; rw [HAH.out, show mFields c = (d, some f) from by rw [← hit.out]; exact iterR_done hst]
              have HEN := hid hen
              clear hst hen hmt
              go_wp2_with fail
              refine HT.out.mono ?_
              rintro e w2 ⟨j2, kk, vv, dd, x2, y2, rfl, hsp2, hfr2, hrd2, hfm2⟩
              have HEV := hid (HEL.out.call hrd2 hfm2)
              have HSP2 := hid hsp2
              have hXl2 : X < w2.heap.size := lt_of_block HEV.out.hx
              obtain ⟨P, hP⟩ : ∃ P, w2.heap.size = P := ⟨_, rfl⟩
              have hXP : X < P := by omega
              have hp0 : ((w2.alloc (.cells zF 50)).alloc z37).heap[P]? = some (.cells zF 50 (0, 0)) := by rw [← hP]; exact (Below.heap_alloc (w2.alloc (.cells zF 50)) z37 _ (by simp)).trans (heap_alloc_new _ _)
              have hf0 : ((w2.alloc (.cells zF 50)).alloc z37).heap[P + 1]? = some z37 := by rw [← hP]; exact heap_alloc2_new _ _ _
              have hf1 : (((w2.alloc (.cells zF 50)).alloc z37).setRow P #[.string kk, .int .i64 dd, .string vv]).heap[P + 1]? = some z37 := (setRow_other _ _ _ _ (by omega)).trans hf0
              have hb2 : Below w2.heap.size w2 ((((w2.alloc (.cells zF 50)).alloc z37).setRow P #[.string kk, .int .i64 dd, .string vv]).setRow (P + 1) (F37 true x2 y2)) := below_setRow (below_setRow (((Below.refl _ _).alloc (Nat.le_refl _) _).alloc (by simp) _) (by omega) _) (by omega) _
              have HEV3 := HEV.out.below hb2
              have hfw := setRow_heap _ (P + 1) _ (F37 true x2 y2) _ _ hf1
              have hpw : ((((w2.alloc (.cells zF 50)).alloc z37).setRow P #[.string kk, .int .i64 dd, .string vv]).setRow (P + 1) (F37 true x2 y2)).heap[P]? = some (.cells #[.string kk, .int .i64 dd, .string vv] 50 (0, 0)) := (setRow_other _ _ _ _ (by omega)).trans (setRow_heap _ P _ #[.string kk, .int .i64 dd, .string vv] _ _ hp0)
              have HP0 := hid hp0
              have HF1 := hid hf1
              obtain ⟨w4, hw4⟩ : ∃ w4, (((w2.alloc (.cells zF 50)).alloc z37).setRow P #[.string kk, .int .i64 dd, .string vv]).setRow (P + 1) (F37 true x2 y2) = w4 := ⟨_, rfl⟩
              rw [hw4] at HEV3 hfw hpw
              have HEV3 := hid HEV3
              have HFW := hid hfw
              have HPW := hid hpw
              have f0 : w4.cell? ⟨P + 1, 0, none⟩ = some (.bool true) := cell_of_row w4 (P + 1) 0 _ _ _ hfw
              clear hsp2 hrd2 hfm2 hp0 hf0 hf1 hb2 hfw hpw HEL HEV
              go_upto_region 11 with (first | (refine wpList_store_row (o := ⟨none, .store 50 (.tmp 6) (.tmp 44), _, _, _, _⟩) rfl 50 _ _ rfl P #[.string kk, .int .i64 dd, .string vv] rfl rfl 50 _ HP0.out info50s rfl (by simp [Value.oneCell']) ?_) | (refine wpList_store_row (o := ⟨none, .store 37 (.tmp 8) (.tmp 46), _, _, _, _⟩) rfl 37 _ _ rfl (P + 1) (F37 true x2 y2) rfl rfl 37 _ HF1.out info37t rfl (by simp [F37, Value.oneCell']) ?_; change wpList _ _ _ _ _ ((((w2.alloc (.cells zF 50)).alloc z37).setRow P #[.string kk, .int .i64 dd, .string vv]).setRow (P + 1) (F37 true x2 y2)); rw [hw4]))
              clear hw4 HP0 HF1 hP
              go_wp2_with fail
              refine region22_12 (X := X) (F := P + 1) (cs := (rowE (.string nm) (.slice tp kt tc) (.slice fp k fc) (.string ⟨#[]⟩) false false x y 0)) (b := true) (x := x2) (y := y2) (fun _ _ _ _ _ h => h) rfl rfl rfl HEV3.out.hx rfl HFW.out (by omega) ?_
              have HE6 : Hid (Ev w R s j2 d.sec fr X (rowE (.string nm) (.slice tp kt tc) (.slice fp k fc) (.string ⟨#[]⟩) false true x2 y2 2) _ _ _ _ _ _) := hid ((HEV3.out.drew.set 9 (.int .i64 2)).mid 5 (.bool true) (.int .i64 x2) (.int .i64 y2) (.bool false))
              simp only [putAll, Act.put, List.setIfInBounds_toArray, List.set_cons_zero, List.set_cons_succ]
              generalize (w4.drew.setCell ⟨X, 9, none⟩ (.int .i64 2)).setCells X 5 [.bool true, .int .i64 x2, .int .i64 y2, .bool false] = w6 at HE6 ⊢
              clear f0 HFW HPW HEV3
              go_wp2_with (first | (refine wpList_load_row (o := ⟨_, .load 48 (.tmp 2), _, _, _, _⟩) rfl 48 _ rfl X rfl 48 (rowE (.string nm) (.slice tp kt tc) (.slice fp k fc) (.string ⟨#[]⟩) false true x2 y2 2) (0, 0) _ HE6.out.hx Tryz.underlying48 rfl info48s ?_) | (refine wpList_store_row (o := ⟨none, .store 48 (.tmp 2) (.tmp 52), _, _, _, _⟩) rfl 48 _ _ rfl X (rowE (.string nm) (.slice tp kt tc) (.slice fp k fc) (.string ⟨#[]⟩) false true x2 y2 2) rfl rfl 48 _ HE6.out.hx info48s rfl (by simp [rowE, Value.oneCell']) ?_))
              have HE7 := HE6.out.row (rowE (.string nm) (.slice tp kt tc) (.slice fp k fc) (.string ⟨#[]⟩) false true x2 y2 2)
              refine bodyPost_ret (res48 rfl rfl HE7.hx rfl) rfl ?_
              exact LeP.mk HE7 HEN.out HSP2.out
          · as_aux_lemma =>
              obtain ⟨fp, fc, rfl⟩ := rowE_slice HEL.out.own
              have hT : Calls Tryz.prog 48 #[.pointer (some ⟨R, 0, none⟩)] wr (FieldP R s wr d false false fr) := by rw [hmt] at hT; exact hT
              have HT := hid hT
              clear hT
              have hst : fieldStep cur = .inr (d, none) := by unfold fieldStep; rw [hmt]
              have hds := (field_sec cur).2.1 _ hmt
              have hd2 : 3 ≤ d.sec := by rw [hds.1]; have := hds.2; omega
              obtain ⟨z, hz⟩ : ∃ z, (mTime d).1 = z := ⟨_, rfl⟩
              obtain ⟨tb, htb⟩ : ∃ tb, (mTime d).2.bad = tb := ⟨_, rfl⟩
              have hen : (mEntry m).1 = z := by unfold mEntry; rw [HAH.out, show mFields c = (d, none) from by rw [← hit.out]; exact iterR_done hst, ← hz]
              have HEN := hid hen
              have HZ := hid hz
              have HTB := hid htb
              have HDS := hid hd2
              clear hst hen hmt hds hd2 hz htb
              go_wp2_with fail
              refine HT.out.mono ?_
              rintro e w2 ⟨j2, kk, vv, dd, x2, y2, rfl, hsp2, hfr2, hrd2, hfm2⟩
              have HEV := hid (HEL.out.call hrd2 hfm2)
              have HSP2 := hid hsp2
              have hXl2 : X < w2.heap.size := lt_of_block HEV.out.hx
              obtain ⟨P, hP⟩ : ∃ P, w2.heap.size = P := ⟨_, rfl⟩
              have hXP : X < P := by omega
              have hp0 : ((w2.alloc (.cells zF 50)).alloc z37).heap[P]? = some (.cells zF 50 (0, 0)) := by rw [← hP]; exact (Below.heap_alloc (w2.alloc (.cells zF 50)) z37 _ (by simp)).trans (heap_alloc_new _ _)
              have hf0 : ((w2.alloc (.cells zF 50)).alloc z37).heap[P + 1]? = some z37 := by rw [← hP]; exact heap_alloc2_new _ _ _
              have hf1 : (((w2.alloc (.cells zF 50)).alloc z37).setRow P #[.string kk, .int .i64 dd, .string vv]).heap[P + 1]? = some z37 := (setRow_other _ _ _ _ (by omega)).trans hf0
              have hb2 : Below w2.heap.size w2 ((((w2.alloc (.cells zF 50)).alloc z37).setRow P #[.string kk, .int .i64 dd, .string vv]).setRow (P + 1) (F37 false x2 y2)) := below_setRow (below_setRow (((Below.refl _ _).alloc (Nat.le_refl _) _).alloc (by simp) _) (by omega) _) (by omega) _
              have HEV3 := HEV.out.below hb2
              have hfw := setRow_heap _ (P + 1) _ (F37 false x2 y2) _ _ hf1
              have hpw : ((((w2.alloc (.cells zF 50)).alloc z37).setRow P #[.string kk, .int .i64 dd, .string vv]).setRow (P + 1) (F37 false x2 y2)).heap[P]? = some (.cells #[.string kk, .int .i64 dd, .string vv] 50 (0, 0)) := (setRow_other _ _ _ _ (by omega)).trans (setRow_heap _ P _ #[.string kk, .int .i64 dd, .string vv] _ _ hp0)
              have HP0 := hid hp0
              have HF1 := hid hf1
              obtain ⟨w4, hw4⟩ : ∃ w4, (((w2.alloc (.cells zF 50)).alloc z37).setRow P #[.string kk, .int .i64 dd, .string vv]).setRow (P + 1) (F37 false x2 y2) = w4 := ⟨_, rfl⟩
              rw [hw4] at HEV3 hfw hpw
              have HEV3 := hid HEV3
              have HFW := hid hfw
              have HPW := hid hpw
              have f0 : w4.cell? ⟨P + 1, 0, none⟩ = some (.bool false) := cell_of_row w4 (P + 1) 0 _ _ _ hfw
              clear hsp2 hrd2 hfm2 hp0 hf0 hf1 hb2 hfw hpw HEL HEV
              go_upto_region 11 with (first | (refine wpList_store_row (o := ⟨none, .store 50 (.tmp 6) (.tmp 44), _, _, _, _⟩) rfl 50 _ _ rfl P #[.string kk, .int .i64 dd, .string vv] rfl rfl 50 _ HP0.out info50s rfl (by simp [Value.oneCell']) ?_) | (refine wpList_store_row (o := ⟨none, .store 37 (.tmp 8) (.tmp 46), _, _, _, _⟩) rfl 37 _ _ rfl (P + 1) (F37 false x2 y2) rfl rfl 37 _ HF1.out info37t rfl (by simp [F37, Value.oneCell']) ?_; change wpList _ _ _ _ _ ((((w2.alloc (.cells zF 50)).alloc z37).setRow P #[.string kk, .int .i64 dd, .string vv]).setRow (P + 1) (F37 false x2 y2)); rw [hw4]))
              clear hw4 HP0 HF1 hP
              have hT2 := time_any HEV3.out.rd hs HDS.out hfr2 HSP2.out
              rw [HZ.out, HTB.out] at hT2
              have HT2 := hid hT2
              clear hT2
              go_wp2_with fail
              refine HT2.out.mono ?_
              rintro e w5 ⟨j3, tm, tok, x3, y3, rfl, hsp3, hfr3, hrd3, hfm3⟩
              have HE5 := hid (HEV3.out.call hrd3 hfm3)
              have HSP3 := hid hsp3
              clear hsp3 hrd3 hfm3 HT2 HEV3 HPW HFW f0
              have x3' : w5.cell? ⟨X, 3, none⟩ = some (.string ⟨#[]⟩) := cell_of_row w5 X 3 _ _ _ HE5.out.hx
              have x4' : w5.cell? ⟨X, 4, none⟩ = some (.bool false) := cell_of_row w5 X 4 _ _ _ HE5.out.hx
              have xf : ∀ o, w5.frozen? ⟨X, o, none⟩ = false := fun o => frozen_of_row w5 X o _ _ HE5.out.hx
              have HE6 := (HE5.out.set 3 (.string tm)).set 4 (.bool tok)
              have ht := HE6.there 5 4 (by show 9 ≤ 10; decide)
              have HE7 : Ev w R s j3 z.sec fr X (rowE (.string nm) (.slice tp kt tc) (.slice fp k fc) (.string tm) tok tb x3 y3 0) _ _ _ _ _ _ := HE6.mid 5 (.bool tb) (.int .i64 x3) (.int .i64 y3) (.bool false)
              obtain ⟨w7, hw7⟩ : ∃ w7, ((w5.setCell ⟨X, 3, none⟩ (.string tm)).setCell ⟨X, 4, none⟩ (.bool tok)).setCells X 5 [.bool tb, .int .i64 x3, .int .i64 y3, .bool false] = w7 := ⟨_, rfl⟩
              rw [hw7] at HE7
              have HE7 := hid HE7
              clear HE6
              go_upto_region 17 with (refine wpList_store_mid (op := ⟨none, .store 37 (.tmp 69) (.tmp 66), _, _, _, _⟩) rfl 37 _ _ rfl X 5 #[.bool tb, .int .i64 x3, .int .i64 y3, .bool false] rfl rfl ht info37s (by simp [Value.oneCell']) ?_; rw [hw7])
              clear hw7 ht x3' x4' xf HE5
              cases tb
              · have hx5 : w7.cell? ⟨X, 5, none⟩ = some (.bool false) := cell_of_row w7 X 5 _ _ _ HE7.out.hx
                have HE8 : Hid (Ev w R s j3 z.sec fr X (rowE (.string nm) (.slice tp kt tc) (.slice fp k fc) (.string tm) tok false x3 y3 0) _ _ _ _ _ _) := HE7
                go_wp2_with (first | (refine wpList_load_row (o := ⟨_, .load 48 (.tmp 2), _, _, _, _⟩) rfl 48 _ rfl X rfl 48 (rowE (.string nm) (.slice tp kt tc) (.slice fp k fc) (.string tm) tok false x3 y3 0) (0, 0) _ HE8.out.hx Tryz.underlying48 rfl info48s ?_) | (refine wpList_store_row (o := ⟨none, .store 48 (.tmp 2) (.tmp 74), _, _, _, _⟩) rfl 48 _ _ rfl X (rowE (.string nm) (.slice tp kt tc) (.slice fp k fc) (.string tm) tok false x3 y3 0) rfl rfl 48 _ HE8.out.hx info48s rfl (by simp [rowE, Value.oneCell']) ?_))
                have HE9 := HE8.out.row (rowE (.string nm) (.slice tp kt tc) (.slice fp k fc) (.string tm) tok false x3 y3 0)
                refine bodyPost_ret (res48 rfl rfl HE9.hx rfl) rfl ?_
                exact LeP.mk HE9 HEN.out HSP3.out
              · have hx5 : w7.cell? ⟨X, 5, none⟩ = some (.bool true) := cell_of_row w7 X 5 _ _ _ HE7.out.hx
                have hx9 : w7.cell? ⟨X, 9, none⟩ = some (.int .i64 0) := cell_of_row w7 X 9 _ _ _ HE7.out.hx
                have hf9 : w7.frozen? ⟨X, 9, none⟩ = false := frozen_of_row w7 X 9 _ _ HE7.out.hx
                have HE8 : Hid (Ev w R s j3 z.sec fr X (rowE (.string nm) (.slice tp kt tc) (.slice fp k fc) (.string tm) tok true x3 y3 3) _ _ _ _ _ _) := hid (HE7.out.set 9 (.int .i64 3))
                go_wp2_with (first | (refine wpList_load_row (o := ⟨_, .load 48 (.tmp 2), _, _, _, _⟩) rfl 48 _ rfl X rfl 48 (rowE (.string nm) (.slice tp kt tc) (.slice fp k fc) (.string tm) tok true x3 y3 3) (0, 0) _ HE8.out.hx Tryz.underlying48 rfl info48s ?_) | (refine wpList_store_row (o := ⟨none, .store 48 (.tmp 2) (.tmp 74), _, _, _, _⟩) rfl 48 _ _ rfl X (rowE (.string nm) (.slice tp kt tc) (.slice fp k fc) (.string tm) tok true x3 y3 3) rfl rfl 48 _ HE8.out.hx info48s rfl (by simp [rowE, Value.oneCell']) ?_))
                have HE9 := HE8.out.row (rowE (.string nm) (.slice tp kt tc) (.slice fp k fc) (.string tm) tok true x3 y3 3)
                refine bodyPost_ret (res48 rfl rfl HE9.hx rfl) rfl ?_
                exact LeP.mk HE9 HEN.out HSP3.out
          · as_aux_lemma =>
              have hT : Calls Tryz.prog 48 #[.pointer (some ⟨R, 0, none⟩)] wr (FieldP R s wr d false true fr) := by rw [hmt] at hT; exact hT
              have HT := hid hT
              clear hT
              have hst : fieldStep cur = .inl d := by unfold fieldStep; rw [hmt]
              have hit2 : iterR fieldStep (m0, none) d = mFields c := by rw [← hit.out]; exact (iterR_more hst).symm
              have HIT2 := hid hit2
              have hless := field_less hmt
              have hsec2 : 2 ≤ d.sec := by have := (field_sec cur).1 _ _ hmt; omega
              have HLESS := hid hless
              have HSEC2 := hid hsec2
              clear hst hit2 hless hsec2 hmt
              go_wp2_with fail
              refine HT.out.mono ?_
              rintro e w2 ⟨j2, kk, vv, dd, x2, y2, rfl, hsp2, hfr2, hrd2, hfm2⟩
              have HEV := hid (HEL.out.call hrd2 hfm2)
              have HSP2 := hid hsp2
              have hXl2 : X < w2.heap.size := lt_of_block HEV.out.hx
              obtain ⟨P, hP⟩ : ∃ P, w2.heap.size = P := ⟨_, rfl⟩
              have hXP : X < P := by omega
              have hp0 : ((w2.alloc (.cells zF 50)).alloc z37).heap[P]? = some (.cells zF 50 (0, 0)) := by rw [← hP]; exact (Below.heap_alloc (w2.alloc (.cells zF 50)) z37 _ (by simp)).trans (heap_alloc_new _ _)
              have hf0 : ((w2.alloc (.cells zF 50)).alloc z37).heap[P + 1]? = some z37 := by rw [← hP]; exact heap_alloc2_new _ _ _
              have hf1 : (((w2.alloc (.cells zF 50)).alloc z37).setRow P #[.string kk, .int .i64 dd, .string vv]).heap[P + 1]? = some z37 := (setRow_other _ _ _ _ (by omega)).trans hf0
              have hb2 : Below w2.heap.size w2 ((((w2.alloc (.cells zF 50)).alloc z37).setRow P #[.string kk, .int .i64 dd, .string vv]).setRow (P + 1) (F37 false x2 y2)) := below_setRow (below_setRow (((Below.refl _ _).alloc (Nat.le_refl _) _).alloc (by simp) _) (by omega) _) (by omega) _
              have HEV3 := HEV.out.below hb2
              have hfw := setRow_heap _ (P + 1) _ (F37 false x2 y2) _ _ hf1
              have hpw : ((((w2.alloc (.cells zF 50)).alloc z37).setRow P #[.string kk, .int .i64 dd, .string vv]).setRow (P + 1) (F37 false x2 y2)).heap[P]? = some (.cells #[.string kk, .int .i64 dd, .string vv] 50 (0, 0)) := (setRow_other _ _ _ _ (by omega)).trans (setRow_heap _ P _ #[.string kk, .int .i64 dd, .string vv] _ _ hp0)
              have HP0 := hid hp0
              have HF1 := hid hf1
              obtain ⟨w4, hw4⟩ : ∃ w4, (((w2.alloc (.cells zF 50)).alloc z37).setRow P #[.string kk, .int .i64 dd, .string vv]).setRow (P + 1) (F37 false x2 y2) = w4 := ⟨_, rfl⟩
              rw [hw4] at HEV3 hfw hpw
              have HEV3 := hid HEV3
              have HFW := hid hfw
              have HPW := hid hpw
              have f0 : w4.cell? ⟨P + 1, 0, none⟩ = some (.bool false) := cell_of_row w4 (P + 1) 0 _ _ _ hfw
              clear hsp2 hrd2 hfm2 hp0 hf0 hf1 hb2 hfw hpw HEL HEV
              go_upto_region 11 with (first | (refine wpList_store_row (o := ⟨none, .store 50 (.tmp 6) (.tmp 44), _, _, _, _⟩) rfl 50 _ _ rfl P #[.string kk, .int .i64 dd, .string vv] rfl rfl 50 _ HP0.out info50s rfl (by simp [Value.oneCell']) ?_) | (refine wpList_store_row (o := ⟨none, .store 37 (.tmp 8) (.tmp 46), _, _, _, _⟩) rfl 37 _ _ rfl (P + 1) (F37 false x2 y2) rfl rfl 37 _ HF1.out info37t rfl (by simp [F37, Value.oneCell']) ?_; change wpList _ _ _ _ _ ((((w2.alloc (.cells zF 50)).alloc z37).setRow P #[.string kk, .int .i64 dd, .string vv]).setRow (P + 1) (F37 false x2 y2)); rw [hw4]))
              clear hw4 HP0 HF1 hP
              have hx1 : w4.cell? ⟨X, 2, none⟩ = some fv := cell_of_row w4 X 2 _ _ _ HEV3.out.hx
              have hone := run_oneE (z := .agg zF) Tryz.underlying46 info50z (by decide) (by decide) w4 #[.string kk, .int .i64 dd, .string vv] rfl
              have hown : (w4.alloc (.cells #[.string kk, .int .i64 dd, .string vv] 50)).ownsRow (X + 1) 50 3 fv k xs := rowE_keep HEV3.out.own fun g hg => Below.heap_alloc _ _ _ (rowE_lt HEV3.out.own g hg).2
              have hvl := lt_of_block HEV3.out.hx
              obtain ⟨tv', w5, happ, hown3, hgr3, hob3⟩ := run_appE Tryz.underlying46 info50z rfl (by decide) (by decide) _ 46 hown w4.heap.size 1 1 #[.string kk, .int .i64 dd, .string vv] (heap_alloc_new _ _) rfl (by simp [Value.oneCell']) (by omega) (by simp; omega)
              have HE4 := hid (HEV3.out.grow hown3 hgr3)
              obtain ⟨tp', tc', rfl⟩ := rowE_slice hown3
              have hx3 : w5.cell? ⟨X, 2, none⟩ = some fv := cell_of_row w5 X 2 _ _ _ HE4.out.hx
              have hf3 : w5.frozen? ⟨X, 2, none⟩ = false := frozen_of_row w5 X 2 _ _ HE4.out.hx
              have HE5 := hid (HE4.out.set 2 (.slice tp' (k + 1) tc'))
              clear hown hown3 hgr3 hob3 HEV3 HE4 HFW
              go_wp2_with (first | (refine wpList_load_row (o := ⟨_, .load 50 (.tmp 6), _, _, _, _⟩) rfl 50 _ rfl P rfl 50 #[.string kk, .int .i64 dd, .string vv] (0, 0) _ HPW.out Tryz.underlying50 rfl info50s ?_) | (refine wpList_val (o := ⟨some 59, .call { callee := .builtin .append, args := #[.tmp 56, .tmp 58], argTypes := #[46, 46] }, 46, _, _, _⟩) rfl (x_appE rfl rfl rfl happ) ?_))
              go_roundg (d.left + 1)
              case measure => have := HGH.out; have := HLESS.out; omega
              case rel => exact ⟨d, j2, k + 1, _, _, rfl, HIT2, HE5, HSP2, by omega, HSEC2.out, by have := HLESS.out; omega⟩
      · as_aux_lemma =>
          have hT : Calls Tryz.prog 47 #[.pointer (some ⟨R, 0, none⟩)] wr (TagP R s wr c false true fr) := by rw [hmt] at hT; exact hT
          have HT := hid hT
          clear hT
          have hst : tagStep cur = .inl c := by unfold tagStep; rw [hmt]
          have hit2 : iterR tagStep (m0, none) c = mTags a := by rw [← hit.out]; exact (iterR_more hst).symm
          have HIT2 := hid hit2
          have hless := tag_less hmt
          have hsec2 : c.sec = 1 ∨ c.sec = 2 := tag_some_sec hmt
          have HLESS := hid hless
          have HSEC2 := hid hsec2
          clear hst hit2 hless hsec2 hmt
          go_wp2_with fail
          refine HT.out.mono ?_
          rintro e w2 ⟨j2, kk, vv, x2, y2, rfl, hsp2, hfr2, hrd2, hfm2⟩
          have HEV := hid (HEL.out.call hrd2 hfm2)
          have HSP2 := hid hsp2
          have hXl2 : X < w2.heap.size := lt_of_block HEV.out.hx
          obtain ⟨P, hP⟩ : ∃ P, w2.heap.size = P := ⟨_, rfl⟩
          have hXP : X < P := by omega
          have hp0 : ((w2.alloc (.cells zT 107)).alloc z37).heap[P]? = some (.cells zT 107 (0, 0)) := by rw [← hP]; exact (Below.heap_alloc (w2.alloc (.cells zT 107)) z37 _ (by simp)).trans (heap_alloc_new _ _)
          have hf0 : ((w2.alloc (.cells zT 107)).alloc z37).heap[P + 1]? = some z37 := by rw [← hP]; exact heap_alloc2_new _ _ _
          have hf1 : (((w2.alloc (.cells zT 107)).alloc z37).setRow P #[.string kk, .string vv]).heap[P + 1]? = some z37 := (setRow_other _ _ _ _ (by omega)).trans hf0
          have hb2 : Below w2.heap.size w2 ((((w2.alloc (.cells zT 107)).alloc z37).setRow P #[.string kk, .string vv]).setRow (P + 1) (F37 false x2 y2)) := below_setRow (below_setRow (((Below.refl _ _).alloc (Nat.le_refl _) _).alloc (by simp) _) (by omega) _) (by omega) _
          have HEV3 := HEV.out.below hb2
          have hfw := setRow_heap _ (P + 1) _ (F37 false x2 y2) _ _ hf1
          have hpw : ((((w2.alloc (.cells zT 107)).alloc z37).setRow P #[.string kk, .string vv]).setRow (P + 1) (F37 false x2 y2)).heap[P]? = some (.cells #[.string kk, .string vv] 107 (0, 0)) := (setRow_other _ _ _ _ (by omega)).trans (setRow_heap _ P _ #[.string kk, .string vv] _ _ hp0)
          have HP0 := hid hp0
          have HF1 := hid hf1
          obtain ⟨w4, hw4⟩ : ∃ w4, (((w2.alloc (.cells zT 107)).alloc z37).setRow P #[.string kk, .string vv]).setRow (P + 1) (F37 false x2 y2) = w4 := ⟨_, rfl⟩
          rw [hw4] at HEV3 hfw hpw
          have HEV3 := hid HEV3
          have HFW := hid hfw
          have HPW := hid hpw
          have f0 : w4.cell? ⟨P + 1, 0, none⟩ = some (.bool false) := cell_of_row w4 (P + 1) 0 _ _ _ hfw
          clear hsp2 hrd2 hfm2 hp0 hf0 hf1 hb2 hfw hpw HEL HEV
          go_upto_region 5 with (first | (refine wpList_store_row (o := ⟨none, .store 107 (.tmp 3) (.tmp 24), _, _, _, _⟩) rfl 107 _ _ rfl P #[.string kk, .string vv] rfl rfl 107 _ HP0.out info107s rfl (by simp [Value.oneCell']) ?_) | (refine wpList_store_row (o := ⟨none, .store 37 (.tmp 5) (.tmp 26), _, _, _, _⟩) rfl 37 _ _ rfl (P + 1) (F37 false x2 y2) rfl rfl 37 _ HF1.out info37t rfl (by simp [F37, Value.oneCell']) ?_; change wpList _ _ _ _ _ ((((w2.alloc (.cells zT 107)).alloc z37).setRow P #[.string kk, .string vv]).setRow (P + 1) (F37 false x2 y2)); rw [hw4]))
          clear hw4 HP0 HF1 hP
          have hx1 : w4.cell? ⟨X, 1, none⟩ = some tv := cell_of_row w4 X 1 _ _ _ HEV3.out.hx
          have hone := run_oneE (z := .agg zT) Tryz.underlying45 info107z (by decide) (by decide) w4 #[.string kk, .string vv] rfl
          have hown : (w4.alloc (.cells #[.string kk, .string vv] 107)).ownsRow (X + 1) 107 2 tv k xs := rowE_keep HEV3.out.own fun g hg => Below.heap_alloc _ _ _ (rowE_lt HEV3.out.own g hg).2
          have hvl := lt_of_block HEV3.out.hx
          obtain ⟨tv', w5, happ, hown3, hgr3, hob3⟩ := run_appE Tryz.underlying45 info107z rfl (by decide) (by decide) _ 45 hown w4.heap.size 1 1 #[.string kk, .string vv] (heap_alloc_new _ _) rfl (by simp [Value.oneCell']) (by omega) (by simp; omega)
          have HE4 := hid (HEV3.out.grow hown3 hgr3)
          obtain ⟨tp', tc', rfl⟩ := rowE_slice hown3
          have hx3 : w5.cell? ⟨X, 1, none⟩ = some tv := cell_of_row w5 X 1 _ _ _ HE4.out.hx
          have hf3 : w5.frozen? ⟨X, 1, none⟩ = false := frozen_of_row w5 X 1 _ _ HE4.out.hx
          have HE5 := hid (HE4.out.set 1 (.slice tp' (k + 1) tc'))
          clear hown hown3 hgr3 hob3 HEV3 HE4 HFW
          go_wp2_with (first | (refine wpList_load_row (o := ⟨_, .load 107 (.tmp 3), _, _, _, _⟩) rfl 107 _ rfl P rfl 107 #[.string kk, .string vv] (0, 0) _ HPW.out Tryz.underlying107 rfl info107s ?_) | (refine wpList_val (o := ⟨some 39, .call { callee := .builtin .append, args := #[.tmp 36, .tmp 38], argTypes := #[45, 45] }, 45, _, _, _⟩) rfl (x_appE rfl rfl rfl happ) ?_))
          go_roundg (c.left + 1)
          case measure => have := HGH.out; have := HLESS.out; omega
          case rel => exact ⟨c, j2, k + 1, _, _, rfl, HIT2, HE5, HSP2, by omega, HSEC2.out, by have := HLESS.out; omega⟩
end Go.Proofs.YtejlokdcocacaaaGreatDoor

/- The reference's entries: how many. -/
namespace Go.Proofs.YtejlokdcocacaaaGreatDoor
open Go.RowKit

/-- Where lEntries stands behind k entries. -/
structure ER (w : World) (R : Nat) (s : ByteArray) (j p fr k : Nat) (lv : Value) (xs : List Value) (wx : World) : Prop where
  rd : IsRd wx R s j p fr
  p45 : p = 4 ∨ p = 5
  sp : Sp s j p (msAt s.data.toList k)
  ord : (msAt s.data.toList k).Or
  bel : Below w.heap.size w wx
  own : wx.ownsRow (R + 1) 48 10 lv k xs
  has : ∀ i, i < k → (mNx (msAt s.data.toList i)).has 1 = true
  wr : w.heap.size ≤ R

theorem ER.start {w w1 : World} {R : Nat} {s : ByteArray} (hr : IsRd w1 R s 0 5 0) (hb : Below w.heap.size w w1) (hR : w.heap.size = R) : ER w R s 0 5 0 0 (.slice none 0 0) [] w1 :=
  ⟨hr, .inr rfl, ⟨rfl, Nat.zero_le _, rfl⟩, Nat.le_refl 0, hb, rowE_nil _ _ _ _, fun i hi => absurd hi (by omega), by omega⟩

theorem ER.next {w wx w2 w3 w4 : World} {R : Nat} {s : ByteArray} {j p fr k i1 i2 : Nat} {lv lv' : Value} {xs : List Value} {cs : Array Value} (h : ER w R s j p fr k lv xs wx) (hh : (mNx (msAt s.data.toList k)).has 1 = true)
    (hf2 : Rds R wx w2) (hs3 : Sp s i2 (mEntry (mNx (msAt s.data.toList k))).1.sec (mEntry (mNx (msAt s.data.toList k))).1) (hr3 : IsRd w3 R s i2 (mEntry (mNx (msAt s.data.toList k))).1.sec i1) (hf3 : Rds R w2 w3)
    (ho : w4.ownsRow (R + 1) 48 10 lv' (k + 1) (xs ++ cs.toList)) (hg : (w3.alloc (.cells cs 48)).grownBy w4 lv.ownBlock) : ER w R s i2 (mEntry (mNx (msAt s.data.toList k))).1.sec i1 (k + 1) lv' (xs ++ cs.toList) w4 := by
  have hRl := lt_of_block hr3
  have hwr := h.wr
  have hlv := rowE_lt h.own
  have hb3 : Below w.heap.size w w3 := h.bel.trans ((hf2.trans hf3).toBelow hwr h.bel.size)
  have kk : ∀ g, g < w3.heap.size → g ≤ R → w4.heap[g]? = w3.heap[g]? := fun g hg1 hg2 => by
    rw [hg.block g (by simp; omega) (fun e => by have := (hlv g e.symm).1; omega)]
    exact Below.heap_alloc w3 _ g hg1
  have hsz := hg.size
  simp only [World.size_alloc] at hsz
  have h3s := hb3.size
  refine ⟨(kk R hRl (Nat.le_refl _)).trans hr3, entry_sec _ rfl, hs3, or_entry _, ?_, ho, fun i hi => ?_, hwr⟩
  · exact ⟨hg.os.trans hb3.os, hg.tape.trans hb3.tape, hg.output.trans hb3.output, by omega, fun g hg1 => (kk g (by omega) (by omega)).trans (hb3.block g hg1)⟩
  · by_cases hk : i < k
    · exact h.has i hk
    · obtain rfl : i = k := by omega
      exact hh

set_option maxHeartbeats 4000000 in
set_option maxRecDepth 100000 in
theorem lentries_spec (s : ByteArray) (hs : s.size ≤ 900) (w : World) :
    Calls Tryz.prog 9 #[.string s] w fun e w' => ∃ (n : Nat) (lv : Value) (xs : List Value), e = .returned lv ∧ w'.ownsRow (w.heap.size + 1) 48 10 lv n xs ∧ n ≤ 900 ∧ (∀ i, i < n → (mNx (msAt s.data.toList i)).has 1 = true) ∧ (mNx (msAt s.data.toList n)).has 1 = false ∧ Below w.heap.size w w' := by
  obtain ⟨R, hR⟩ : ∃ R, w.heap.size = R := ⟨_, rfl⟩
  have HN := hid (newd_spec s w)
  have hl0 : (mNx (msAt s.data.toList 0)).left ≤ 900 := by
    have := (adv_mNx (msAt s.data.toList 0)).left
    have h2 : (msAt s.data.toList 0).left = s.size := rfl
    omega
  go_enter Tryz.func9, Tryz.ntmps9
  go_wp2_with fail
  refine HN.out.mono ?_
  rintro e w1 ⟨rfl, hrd, hb⟩
  rw [hR] at hrd
  have HER := hid (ER.start hrd hb hR)
  clear HN hrd hb
  go_wp2_with fail
  go_loopg [3] ((mNx (msAt s.data.toList 0)).left + 1) (fun gh s3 wx => ∃ (k : Nat) (xs : List Value) (j p fr : Nat), gh = (mNx (msAt s.data.toList k)).left + 1 ∧ k + (mNx (msAt s.data.toList k)).left ≤ 900 ∧ Hid (ER w R s j p fr k s3 xs wx))
  case atStart => exact ⟨0, [], 0, 5, 0, rfl, by omega, HER⟩
  case round =>
    obtain ⟨k, xs, j, p, fr, hgh, hk, her⟩ := hrel
    have HNX := hid (next_any her.out.rd (by omega) her.out.p45 her.out.sp her.out.ord)
    have HGH := hid hgh
    clear HER hgh hl0
    cases hh : (mNx (msAt s.data.toList k)).has 1
    · rw [hh] at HNX
      obtain ⟨q, c, rfl⟩ := rowE_slice her.out.own
      go_wp2_with fail
      refine HNX.out.mono ?_
      rintro e w2 ⟨i', rfl, hsp, hrd, hfm⟩
      have hb2 : Below w.heap.size w w2 := her.out.bel.trans (hfm.toBelow her.out.wr her.out.bel.size)
      have ho2 : w2.ownsRow (R + 1) 48 10 (.slice q k c) k xs := rowE_keep her.out.own fun g hg => hfm.block g (rowE_lt her.out.own g hg).2 (by have := (rowE_lt her.out.own g hg).1; omega)
      have HB2 := hid hb2
      have HO2 := hid ho2
      have HH := hid hh
      have HHAS := hid her.out.has
      clear hsp hrd hfm HNX hb2 ho2 hh her
      go_wp2_with fail
      go_ret
      exact ⟨k, _, xs, rfl, hR ▸ HO2.out, by omega, HHAS.out, HH.out, HB2.out⟩
    · rw [hh] at HNX
      have HH := hid hh
      clear hh
      go_wp2_with fail
      refine HNX.out.mono ?_
      rintro e w2 ⟨i1, rfl, hsp, hrd, hfm⟩
      have HLE := hid (lentry_spec hrd (by omega) (Nat.le_refl _) hsp)
      have HFM := hid hfm
      clear hsp hrd hfm HNX
      go_wp2_with fail
      refine HLE.out.mono ?_
      rintro e w3 ⟨cs, i2, rfl, hcs, hone1, hsp3, hrd3, hfm3⟩
      have HCS := hid hcs
      have hown3 : w3.ownsRow (R + 1) 48 10 u3 k xs := rowE_keep her.out.own fun g hg => (HFM.out.trans hfm3).block g (rowE_lt her.out.own g hg).2 (by have := (rowE_lt her.out.own g hg).1; omega)
      have hown : (w3.alloc (.cells cs 48)).ownsRow (R + 1) 48 10 u3 k xs := rowE_keep hown3 fun g hg => Below.heap_alloc _ _ _ (rowE_lt hown3 g hg).2
      have hvl := lt_of_block hrd3
      obtain ⟨lv', w4, happ, hown4, hgr4, hob4⟩ := run_appE Tryz.underlying41 info48z rfl (by decide) (by decide) _ 41 hown w3.heap.size 1 1 cs (heap_alloc_new _ _) (by rw [hcs]) hone1 (by omega) (by simp; omega)
      have HER2 := hid (her.out.next HH.out HFM.out hsp3 hrd3 hfm3 hown4 hgr4)
      have hls := nx_less (mNx (msAt s.data.toList k)) rfl HH.out
      have HLS : Hid ((mNx (msAt s.data.toList (k + 1))).left < (mNx (msAt s.data.toList k)).left) := hid hls
      clear hcs hone1 hsp3 hrd3 hfm3 hown3 hown hown4 hgr4 hob4 HLE HFM her hls
      go_wp2_with (first | (refine wpList_val (o := ⟨some 12, .buildSlice 41 1 #[(0, .tmp 11)], 41, _, _, _⟩) rfl (x_one48 rfl rfl HCS.out) ?_) | (refine wpList_val (o := ⟨some 13, .call { callee := .builtin .append, args := #[.tmp 9, .tmp 12], argTypes := #[41, 41] }, 41, _, _, _⟩) rfl (x_appE rfl rfl rfl happ) ?_))
      go_roundg ((mNx (msAt s.data.toList (k + 1))).left + 1)
      case measure => have := HGH.out; have := HLS.out; omega
      case rel => exact ⟨k + 1, xs ++ cs.toList, i2, _, i1, rfl, by have := HLS.out; omega, HER2⟩
end Go.Proofs.YtejlokdcocacaaaGreatDoor
