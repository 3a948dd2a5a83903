/- DecodeAll's round: an entry appended. -/
import Derived.Test.YtejlokdcocacaaaGreatDoorKEnt
import Derived.Test.YtejlokdcocacaaaGreatDoorKScr
namespace Go.Proofs.YtejlokdcocacaaaGreatDoor
open Go.RowKit Go.Proofs.YtejlokdcocacaaaGreatDoorW.PrintLast

section
variable {o : Oper} {v : Value} {ρ : Operand → Value} {w : World}
theorem x_load41 {x : Operand} {V : Nat} (ho : o.op = .load 41 x) (hx : ρ x = .pointer (some ⟨V, 0, none⟩)) (hc : w.heap[V]? = some (.cells #[v] 41 (0, 0))) : (execOp ρ o).run Tryz.prog w = .ok (.value v) w := by
  have h := cell_of_row w V 0 _ _ _ hc
  simp only [List.getElem?_toArray, List.getElem?_cons_zero] at h
  cases o
  simp only at ho
  subst ho
  go_simp
theorem x_store41 {x y : Operand} {V : Nat} {a old : Value} (ho : o.op = .store 41 x y) (hx : ρ x = .pointer (some ⟨V, 0, none⟩)) (hy : ρ y = a) (hsl : ∃ p n c, a = .slice p n c) (hc : w.heap[V]? = some (.cells #[old] 41 (0, 0))) : (execOp ρ o).run Tryz.prog w = .ok .skip (w.setCell ⟨V, 0, none⟩ a) := by
  have h := cell_of_row w V 0 _ _ _ hc
  simp only [List.getElem?_toArray, List.getElem?_cons_zero] at h
  have hf := frozen_of_row w V 0 _ _ hc
  obtain ⟨p, n, c, rfl⟩ := hsl
  cases o
  simp only at ho
  subst ho
  go_simp
theorem x_one48 {x : Operand} {cs : Array Value} (ho : o.op = .buildSlice 41 1 #[(0, x)]) (hx : ρ x = .agg cs) (hc : cs.size = 10) : (execOp ρ o).run Tryz.prog w = .ok (.value (.slice (some ⟨w.heap.size, 0, none⟩) 1 1)) (w.alloc (.cells cs 48)) := by
  have h := run_oneE (z := .agg zE) Tryz.underlying41 info48z (by decide) (by decide) w cs hc
  unfold execOp
  simp only [ho, Sem.run_bind, List.map_toArray, List.map_cons, List.map_nil, hx, h, Result.andThen_ok]
  rfl
end

theorem results10_put (a : Act) (d : Nat) (v : Value) (hd : 6 ≤ d) : results Tryz.f10 (a.put (some d) v).tmps = results Tryz.f10 a.tmps := by
  have h8 : (a.put (some d) v).tmps[4]?.getD undef = a.tmps[4]?.getD undef := by simp [Act.put, show d ≠ 4 by omega]
  have h9 : (a.put (some d) v).tmps[5]?.getD undef = a.tmps[5]?.getD undef := by simp [Act.put, show d ≠ 5 by omega]
  simp only [results, Tryz.results10]
  simp [h8, h9]

theorem panic10_put {P : Program} {R : Ending → World → Prop} {c : List PanicEntry} {a : Act} {w : World} {d : Nat} {v : Value} (hd : 6 ≤ d) (h : bodyPostD P Tryz.f10 R (.panic c) (a.put (some d) v) w) : bodyPostD P Tryz.f10 R (.panic c) a w :=
  leaves_results (results10_put a d v hd) _ _ _ h

noncomputable def ops10_4 : Array Oper := (Tryz.f10.body.bind (findRegion 4)).getD #[]

set_option maxHeartbeats 4000000 in
set_option maxRecDepth 100000 in
theorem region10_4 {Q : Exit → Act → World → Prop} {a : Act} {w : World} {V D : Nat} {lv : Value} {n : Nat} {xs : List Value} {B0 : Nat} {RT : World → Array Value → Prop}
    (hQ : ∀ (d : Tmp) (v : Value) (c : List PanicEntry) (a : Act) (w : World), 6 ≤ d → Q (.panic c) (a.put (some d) v) w → Q (.panic c) a w) (hsz : a.tmps.size = 19)
    (h4 : a.eval (.tmp 4) = .pointer (some ⟨V, 0, none⟩)) (h6 : a.eval (.tmp 6) = .pointer (some ⟨D, 0, none⟩))
    (hV : w.heap[V]? = some (.cells #[lv] 41 (0, 0)))
    (hT : Calls Tryz.prog 25 #[.pointer (some ⟨D, 0, none⟩)] w.drew fun e w' => ∃ cs, e = .returned (.agg cs) ∧ RT w' cs)
    (hRV : ∀ w' cs, RT w' cs → w'.heap[V]? = some (.cells #[lv] 41 (0, 0)))
    (hRO : ∀ w' cs, RT w' cs → w'.ownsRow B0 48 10 lv n xs ∧ B0 ≤ w'.heap.size)
    (hRC : ∀ w' cs, RT w' cs → cs.size = 10 ∧ ∀ u ∈ cs.toList, u.oneCell' = true) (hn : n ≤ 9000) (hlV : lv.ownBlock ≠ some V)
    (hend : ∀ w' cs lv' w2, RT w' cs → w2.ownsRow B0 48 10 lv' (n + 1) (xs ++ cs.toList) → (w'.alloc (.cells cs 48)).grownBy w2 lv.ownBlock → (lv'.ownBlock = lv.ownBlock ∨ lv'.ownBlock = some (w'.heap.size + 1)) →
      Q .normal (putAll (putAll a [(13, lv), (14, .pointer (some ⟨D, 0, none⟩))]) [(15, .agg cs), (16, .slice (some ⟨w'.heap.size, 0, none⟩) 1 1), (17, lv')]) (w2.setCell ⟨V, 0, none⟩ lv')) :
    (Code.region 4 ops10_4 true).wp Tryz.prog Q a w := by
  generalize ho2 : ops10_4 = ops
  conv at ho2 => lhs; whnf
  subst ho2
  refine start_ (n := 6) (S := fun w9 : World => w9.heap[V]? = some (.cells #[lv] 41 (0, 0))) (ds := [5]) #[false, false, false, false, false, false] (by kernel_rfl) rfl rfl hV (fun hHeld => ?_)
  refine take_ (i := 0) (N := some 13) (v := lv) #[true, false, false, false, false, false] rfl rfl (by kernel_rfl) (fun c a w => hQ 13 _ c a w (by decide)) (y_of rfl fun w9 hs9 => x_load41 rfl (by simp only [h4]) hs9) hHeld rfl ?_
  refine take_ (i := 1) (N := some 14) (v := .pointer (some ⟨D, 0, none⟩)) #[true, true, false, false, false, false] rfl rfl (by kernel_rfl) (fun c a w => hQ 14 _ c a w (by decide)) (y_of rfl fun w9 hs9 => x_move rfl (by simp (disch := first | decide | ((repeat rw [put_size]); rw [hsz]; decide)) only [put_ne, h6])) hHeld rfl ?_
  obtain ⟨A, hA⟩ : ∃ A, putAll a [(13, lv), (14, .pointer (some ⟨D, 0, none⟩))] = A := ⟨_, rfl⟩
  refine norm_ (a' := A) hA ?_
  have hAs : A.tmps.size = 19 := by rw [← hA]; simp only [putAll, put_size, hsz]
  have hA4 : A.eval (.tmp 4) = .pointer (some ⟨V, 0, none⟩) := by rw [← hA]; simp only [putAll]; simp (disch := first | decide | ((repeat rw [put_size]); rw [hsz]; decide)) only [put_ne, h4]
  have hA13 : A.eval (.tmp 13) = lv := by rw [← hA]; simp only [putAll]; simp (disch := first | decide | ((repeat rw [put_size]); rw [hsz]; decide)) only [put_ne, put_same]
  have hA14 : A.eval (.tmp 14) = .pointer (some ⟨D, 0, none⟩) := by rw [← hA]; exact put_same _ _ _ (by (repeat rw [put_size]); rw [hsz]; decide)
  have HA := hid hA
  clear hA
  refine one_ (i := 2) (N := some 15) #[true, true, true, false, false, false] rfl rfl (by kernel_rfl) (by decide) ?_
  intro K hK
  refine goes_ Tryz.func25 rfl rfl #[.pointer (some ⟨D, 0, none⟩)] rfl rfl rfl (by simp only [List.map_toArray, List.map_cons, List.map_nil, hA14]) ?_
  refine hT.mono ?_
  rintro e w1 ⟨cs, rfl, hrt⟩
  have hv1 := hRV _ _ hrt
  obtain ⟨hown, hB0⟩ := hRO _ _ hrt
  obtain ⟨hc, h1⟩ := hRC _ _ hrt
  refine ⟨_, rfl, hK _ _ hv1 (fun hHeld1 => ?_)⟩
  clear hK K
  obtain ⟨A2, hA2⟩ : ∃ A2, Act.put A (some 15) (.agg cs) = A2 := ⟨_, rfl⟩
  refine norm_ (a' := A2) hA2 ?_
  have hBs : A2.tmps.size = 19 := by rw [← hA2, put_size, hAs]
  have hB15 : A2.eval (.tmp 15) = .agg cs := by rw [← hA2]; exact put_same _ _ _ (by rw [hAs]; decide)
  have hB13 : A2.eval (.tmp 13) = lv := by rw [← hA2, put_ne _ _ _ _ (by decide)]; exact hA13
  have hB4 : A2.eval (.tmp 4) = .pointer (some ⟨V, 0, none⟩) := by rw [← hA2, put_ne _ _ _ _ (by decide)]; exact hA4
  refine one_ (i := 3) (N := some 16) #[true, true, true, true, false, false] rfl rfl (by kernel_rfl) (by decide) ?_
  intro K hK
  refine value_ rfl rfl (x_one48 (cs := cs) rfl hB15 hc) ?_
  have hv2 := (Below.heap_alloc w1 (.cells cs 48) V (lt_of_block hv1)).trans hv1
  refine hK _ _ hv2 (fun hHeld2 => ?_)
  clear hK K
  obtain ⟨A3, hA3⟩ : ∃ A3, Act.put A2 (some 16) (.slice (some ⟨w1.heap.size, 0, none⟩) 1 1) = A3 := ⟨_, rfl⟩
  refine norm_ (a' := A3) hA3 ?_
  have hCs : A3.tmps.size = 19 := by rw [← hA3, put_size, hBs]
  have hC16 : A3.eval (.tmp 16) = .slice (some ⟨w1.heap.size, 0, none⟩) 1 1 := by rw [← hA3]; exact put_same _ _ _ (by rw [hBs]; decide)
  have hC13 : A3.eval (.tmp 13) = lv := by rw [← hA3, put_ne _ _ _ _ (by decide)]; exact hB13
  have hC4 : A3.eval (.tmp 4) = .pointer (some ⟨V, 0, none⟩) := by rw [← hA3, put_ne _ _ _ _ (by decide)]; exact hB4
  have hown2 : (w1.alloc (.cells cs 48)).ownsRow B0 48 10 lv n xs := rowE_keep hown fun g hg => Below.heap_alloc _ _ _ (rowE_lt hown g hg).2
  obtain ⟨lv', w2, hr, ho3, hgr, hob⟩ := run_appE Tryz.underlying41 info48z rfl (by decide) (by decide) (w1.alloc (.cells cs 48)) 41 hown2 w1.heap.size 1 1 cs (heap_alloc_new _ _) (by rw [hc]) h1 (by omega) (by simp; omega)
  simp only [World.size_alloc] at hob
  have hv3 := (hgr.block V (by simp; have := lt_of_block hv1; omega) (fun e => hlV e.symm)).trans hv2
  refine one_ (i := 4) (N := some 17) #[true, true, true, true, true, false] rfl rfl (by kernel_rfl) (by decide) ?_
  intro K hK
  refine value_ rfl rfl (x_appE (a := lv) (b := .slice (some ⟨w1.heap.size, 0, none⟩) 1 1) rfl hC13 hC16 hr) ?_
  refine hK _ _ hv3 (fun hHeld3 => ?_)
  clear hK K
  obtain ⟨A4, hA4⟩ : ∃ A4, Act.put A3 (some 17) lv' = A4 := ⟨_, rfl⟩
  refine norm_ (a' := A4) hA4 ?_
  have hD17 : A4.eval (.tmp 17) = lv' := by rw [← hA4]; exact put_same _ _ _ (by rw [hCs]; decide)
  have hD4 : A4.eval (.tmp 4) = .pointer (some ⟨V, 0, none⟩) := by rw [← hA4, put_ne _ _ _ _ (by decide)]; exact hC4
  refine last_ (i := 5) (N := none) #[true, true, true, true, true, true] rfl rfl (by kernel_rfl) (by decide) ?_
  intro K hK
  refine skip_ (by rfl) rfl (x_store41 rfl hD4 hD17 (by obtain ⟨p, c, h⟩ := rowE_slice ho3; exact ⟨p, _, c, h⟩) hv3) ?_
  refine hK _ _ ?_
  refine done_ (by kernel_rfl) ?_
  rw [← hA4, ← hA3, ← hA2, ← HA.out]
  exact hend _ _ _ _ hrt ho3 hgr hob

set_option maxHeartbeats 400000 in
theorem catch23 (p q : Addr) (w : World) : CallsD Tryz.prog 23 #[.pointer (some p), .pointer (some q)] .returning w fun e u' w' => e = .returned (.tuple #[]) ∧ u' = .returning ∧ w' = w := by
  refine callsD_of_wpS Tryz.func23 rfl fun c₀ cs hu => ?_
  apply wpS_seq
  apply wpS_region
  simp [wpOpsS, go_sem, recoverD, hu, Tryz.ntmps23, Exit.thenS]
  refine wpS_cond (t := false) (by simp [Act.eval, Array.replicate]) ?_
  simp only [Bool.false_eq_true, if_false]
  refine wpS_of_wp (wp_skip ?_)
  cases c₀
  simp_all [bodyPostS, results, Tryz.results23]
end Go.Proofs.YtejlokdcocacaaaGreatDoor

/- DecodeAll. -/
namespace Go.Proofs.YtejlokdcocacaaaGreatDoor
open Go.RowKit Go.Proofs.YtejlokdcocacaaaGreatDoorW.PrintLast

/-- The fields of an entry in a list: nobody else's. -/
def FvOk (b D E : Nat) (lv : Value) (r : FieldR) (w : World) (v : Value) : Prop := FldOk b E r w v ∧ ∀ g, v.ownBlock = some g → g ≠ D ∧ lv.ownBlock ≠ some g

theorem FldOk.block {b E : Nat} {r : FieldR} {w : World} {v : Value} (h : FldOk b E r w v) : ∀ g, v.ownBlock = some g → b ≤ g ∧ g < w.heap.size ∧ g ≠ E := by
  intro g hg
  cases r with
  | some d =>
    obtain ⟨g', n, c, rfl, h1, h2, h3, _⟩ := h
    simp [Value.ownBlock] at hg
    subst hg
    exact ⟨h1, h2, h3⟩
  | none => have h2 : v = .slice none 0 0 := h; subst h2; simp [Value.ownBlock] at hg
  | err f => have h2 : v = .slice none 0 0 := h; subst h2; simp [Value.ownBlock] at hg

theorem FldOk.move {b b' E E' : Nat} {r : FieldR} {w w' : World} {v : Value} (h : FldOk b E r w v) (hk : ∀ g, v.ownBlock = some g → w'.heap[g]? = w.heap[g]? ∧ g ≠ E' ∧ b' ≤ g) (hs : w.heap.size ≤ w'.heap.size) : FldOk b' E' r w' v := by
  cases r with
  | some d =>
    obtain ⟨g, n, c, rfl, h1, h2, h3, h4, h5, h6⟩ := h
    obtain ⟨hb, he, hb'⟩ := hk g (by simp [Value.ownBlock])
    exact ⟨g, n, c, rfl, hb', by omega, he, (World.cell?_of_block (w := w) (a := ⟨g, 0, none⟩) hb).trans h4, (World.cell?_of_block (w := w) (a := ⟨g, 1, none⟩) hb).trans h5, (World.cell?_of_block (w := w) (a := ⟨g, 2, none⟩) hb).trans h6⟩
  | none => exact h
  | err f => exact h

/-- Entry i of a list of entries. -/
def RowAt (b D E : Nat) (lv : Value) (xs : List Value) (w : World) (i : Nat) (m : MSt) : Prop :=
  ∃ (nm : ByteArray) (p : Option Addr) (n c : Nat) (fv : Value) (a : Int), (xs.drop (i * 10)).take 10 = (rowOf (.string nm) (.slice p n c) fv a (mEntry m).2).toList ∧ FvOk b D E lv (mFirst m).2 w fv

/-- Where DecodeAll stands behind k entries. -/
structure Al (w : World) (B D T : Nat) (ms : Nat → MSt) (k E : Nat) (lv : Value) (xs : List Value) (wx : World) : Prop where
  dc : Dc B D T E wx (ms k) E wx
  bel : Below w.heap.size w wx
  hv : wx.heap[w.heap.size]? = some (.cells #[lv] 41 (0, 0))
  h1 : wx.heap[w.heap.size + 1]? = some (.cells #[.bool false] 4 (0, 0))
  own : wx.ownsRow (w.heap.size + 2) 48 10 lv k xs
  rows : ∀ i, i < k → RowAt (w.heap.size + 2) D E lv xs wx i (mNx (ms i))
  d3 : w.heap.size + 2 ≤ D
  t3 : w.heap.size + 2 ≤ T
  e3 : w.heap.size + 2 ≤ E
  nd : lv.ownBlock ≠ some D
  nt : lv.ownBlock ≠ some T
  ne : lv.ownBlock ≠ some E
  b3 : 3 < B
  bw : B ≤ w.heap.size

section
variable {w : World} {B D T : Nat} {ms : Nat → MSt} {k E : Nat} {lv : Value} {xs : List Value} {wx : World}

theorem Al.next (h : Al w B D T ms k E lv xs wx) {E' b' : Nat} {w' w2 : World} {lv' : Value} {cs : Array Value} (hrt : Dc B D T E wx (ms (k + 1)) E' w') (hc : cs.size = 10)
    (hen : EntP b' E' (mEntry (mNx (ms k))).2 (mFirst (mNx (ms k))).2 w' (.agg cs)) (hb' : wx.heap.size ≤ b')
    (ho : w2.ownsRow (w.heap.size + 2) 48 10 lv' (k + 1) (xs ++ cs.toList)) (hgr : (w'.alloc (.cells cs 48)).grownBy w2 lv.ownBlock) (hob : lv'.ownBlock = lv.ownBlock ∨ lv'.ownBlock = some (w'.heap.size + 1)) :
    Al w B D T ms (k + 1) E' lv' (xs ++ cs.toList) (w2.setCell ⟨w.heap.size, 0, none⟩ lv') := by
  have hb3 := h.b3
  have hbw := h.bw
  have hd3 := h.d3
  have ht3 := h.t3
  have he3 := h.e3
  have hsz := hrt.st.size
  have hdl : D < wx.heap.size := h.dc.dlt
  have htl : T < wx.heap.size := h.dc.tlt
  obtain ⟨es, hr, hes⟩ := hrt.ex
  have hrl := hr.lt
  have hbs := h.bel.size
  have hvl := lt_of_block h.hv
  have h1l := lt_of_block h.h1
  have hel : E < wx.heap.size := h.dc.st.inE
  have hE' : E' = E ∨ wx.heap.size ≤ E' := hrt.st.esc
  have keep1 : ∀ g, g < wx.heap.size → g ≠ D → g ≠ E → w'.heap[g]? = wx.heap[g]? := fun g hg h1 h2 => hrt.st.block g hg h1 h2
  have keep2 : ∀ g, g < w'.heap.size → lv.ownBlock ≠ some g → g ≠ w.heap.size → (w2.setCell ⟨w.heap.size, 0, none⟩ lv').heap[g]? = w'.heap[g]? := fun g hg h1 h2 => by
    rw [heap_setCell_other _ _ g _ h2, hgr.block g (by simp; omega) (fun e => h1 e.symm)]
    exact Below.heap_alloc w' _ g hg
  have hlvlt := rowE_lt h.own
  have hne' : lv.ownBlock ≠ some E' := by
    intro e
    have := (hlvlt E' e).2
    rcases hE' with e2 | e2
    · rw [e2] at e; exact h.ne e
    · omega
  have hlow : ∀ g, g < w.heap.size + 2 → lv.ownBlock ≠ some g := fun g hg e => by
    have := (hlvlt g e).1; omega
  have hw2s : w'.heap.size + 1 ≤ w2.heap.size := by have := hgr.size; simpa using this
  have hs3 : (w2.setCell ⟨w.heap.size, 0, none⟩ lv').heap.size = w2.heap.size := by simp [World.setCell]
  have hsame : ∀ g, g < w.heap.size + 2 → g ≠ w.heap.size → (w2.setCell ⟨w.heap.size, 0, none⟩ lv').heap[g]? = wx.heap[g]? := fun g h1 h2 =>
    (keep2 g (by omega) (hlow g h1) h2).trans (keep1 g (by omega) (by omega) (by omega))
  have hv2 : w2.heap[w.heap.size]? = some (.cells #[lv] 41 (0, 0)) := by
    rw [hgr.block _ (by simp; omega) (fun e => hlow _ (by omega) e.symm), Below.heap_alloc w' _ _ (by omega), keep1 _ (by omega) (by omega) (by omega)]
    exact h.hv
  have hfin : (w2.setCell ⟨w.heap.size, 0, none⟩ lv').heap[w.heap.size]? = some (.cells #[lv'] 41 (0, 0)) := (heap_setCell_same w2 w.heap.size 0 _ _ lv' hv2).trans (by simp)
  have hrep : Rep (w2.setCell ⟨w.heap.size, 0, none⟩ lv') B D T E' false ((ms (k + 1)).d es) := by
    refine hr.five (keep2 2 (by omega) (hlow 2 (by omega)) (by omega)) (keep2 3 (by omega) (hlow 3 (by omega)) (by omega)) (keep2 D hrl.1 h.nd (by omega)) (keep2 T hrl.2.1 h.nt (by omega)) (keep2 E' hrl.2.2.1 hne' ?_)
    rcases hE' with e | e <;> omega
  have hlv' : ∀ g, g < w'.heap.size → lv.ownBlock ≠ some g → lv'.ownBlock ≠ some g := fun g hg h1 e => by
    rcases hob with e2 | e2
    · exact h1 (by rw [← e2]; exact e)
    · rw [e2] at e; simp at e; omega
  have hxl : xs.length = k * 10 := h.own.1
  refine ⟨Dc.start hrep hes hrt.ok, ?_, hfin, (hsame _ (by omega) (by omega)).trans h.h1, ?_, ?_, hd3, ht3, by rcases hE' with e | e <;> omega, ?_, ?_, ?_, hb3, hbw⟩
  · refine ⟨hgr.os.trans (hrt.st.os.trans h.bel.os), hgr.tape.trans (hrt.st.tape.trans h.bel.tape), hgr.output.trans (hrt.st.output.trans h.bel.output), by omega, fun g hg => (hsame g (by omega) (by omega)).trans (h.bel.block g hg)⟩
  · refine rowE_keep ho fun g hg => heap_setCell_other _ _ g _ ?_
    have := (rowE_lt ho g hg).1
    intro e
    have e2 : g = w.heap.size := e
    omega
  · intro i hi
    by_cases hik : i < k
    · obtain ⟨nm, p, n, c, fv, a, hrow, hfo, hfx⟩ := h.rows i hik
      refine ⟨nm, p, n, c, fv, a, ?_, hfo.move (fun g hg => ?_) (by omega), fun g hg => ?_⟩
      · rw [← hrow, List.drop_append_of_le_length (by omega), List.take_append_of_le_length (by simp; omega)]
      · obtain ⟨f1, f2, f3⟩ := hfo.block g hg
        obtain ⟨f4, f5⟩ := hfx g hg
        refine ⟨(keep2 g (by omega) f5 (by omega)).trans (keep1 g f2 f4 f3), ?_, f1⟩
        rcases hE' with e | e <;> omega
      · obtain ⟨f1, f2, f3⟩ := hfo.block g hg
        obtain ⟨f4, f5⟩ := hfx g hg
        exact ⟨f4, hlv' g (by omega) f5⟩
    · obtain rfl : i = k := by omega
      obtain ⟨nm, p, n, c, fv, a, hrow, hfo⟩ := hen
      have hrow2 : cs = rowOf (.string nm) (.slice p n c) fv a (mEntry (mNx (ms i))).2 := Value.agg.inj hrow
      have hnl : ∀ g, fv.ownBlock = some g → lv.ownBlock ≠ some g := fun g hg e => by
        have := (hfo.block g hg).1
        have := (hlvlt g e).2
        omega
      refine ⟨nm, p, n, c, fv, a, ?_, hfo.move (fun g hg => ?_) (by omega), fun g hg => ?_⟩
      · rw [← hxl, List.drop_left, ← hrow2]
        exact List.take_of_length_le (by simp; omega)
      · obtain ⟨f1, f2, f3⟩ := hfo.block g hg
        exact ⟨keep2 g f2 (hnl g hg) (by omega), f3, by omega⟩
      · obtain ⟨f1, f2, f3⟩ := hfo.block g hg
        exact ⟨by omega, hlv' g f2 (hnl g hg)⟩
  · rcases hob with e | e
    · rw [e]; exact h.nd
    · rw [e]; intro e2; simp at e2; omega
  · rcases hob with e | e
    · rw [e]; exact h.nt
    · rw [e]; intro e2; simp at e2; omega
  · rcases hob with e | e
    · rw [e]; exact hne'
    · rw [e]; intro e2; simp at e2; omega
end

theorem rowOf_one (nm : ByteArray) (p : Option Addr) (n c : Nat) (b E : Nat) (r : FieldR) (w : World) (fv : Value) (a : Int) (tr : TimeR) (h : FldOk b E r w fv) :
    (rowOf (.string nm) (.slice p n c) fv a tr).size = 10 ∧ ∀ u ∈ (rowOf (.string nm) (.slice p n c) fv a tr).toList, u.oneCell' = true := by
  have hf : fv.oneCell' = true := by
    cases r with
    | some d => obtain ⟨g', n, c, rfl, _⟩ := h; rfl
    | none => have h2 : fv = .slice none 0 0 := h; subst h2; rfl
    | err f => have h2 : fv = .slice none 0 0 := h; subst h2; rfl
  cases tr with
  | err f =>
    refine ⟨rfl, fun u hu => ?_⟩
    simp only [rowOf, rowE, List.mem_cons, List.not_mem_nil, or_false] at hu
    rcases hu with rfl | rfl | rfl | rfl | rfl | rfl | rfl | rfl | rfl | rfl <;> first | rfl | exact hf
  | ok l =>
    refine ⟨rfl, fun u hu => ?_⟩
    simp only [rowOf, rowE, List.mem_cons, List.not_mem_nil, or_false] at hu
    rcases hu with rfl | rfl | rfl | rfl | rfl | rfl | rfl | rfl | rfl | rfl <;> first | rfl | exact hf

set_option maxHeartbeats 4000000 in
set_option maxRecDepth 100000 in
theorem all_code {w : World} {B : Nat} (s : ByteArray) (hs : s.size ≤ 900) (hT : Tabs w) (hB3 : 3 < B) (hB : B ≤ w.heap.size) (hG : Glob B w) (n : Nat) (hn : n ≤ 5000)
    (ms : Nat → MSt) (h0 : ms 0 = mStart s.data.toList)
    (hstep : ∀ i, i < n → (mNx (ms i)).has 1 = true ∧ (mNx (ms i)).sec = 0 ∧ ms (i + 1) = (mEntry (mNx (ms i))).1) (hend : (mNx (ms n)).has 1 = false) :
    Calls Tryz.prog 10 #[.string s, .slice none 0 0] w fun e w' => ∃ lv xs D E, e = .returned (.tuple #[lv, .bool true]) ∧ w'.ownsRow (w.heap.size + 2) 48 10 lv n xs ∧ (∀ i, i < n → RowAt (w.heap.size + 2) D E lv xs w' i (mNx (ms i))) ∧ Below w.heap.size w w' := by
  have hmf := makeFunc_any
  have hbel := ((Below.refl w.heap.size w).alloc (Nat.le_refl _) (.cells #[.slice none 0 0] 41)).alloc (by simp) (.cells #[.bool false] 4)
  have HST := hid (start_code (w := (w.alloc (.cells #[.slice none 0 0] 41)).alloc (.cells #[.bool false] 4)) (B := B) s hs (hT.keep (hbel.block 2 (by omega)) (hbel.block 3 (by omega))) hB3 (by simp; omega))
  have HBEL := hid hbel
  have HSTEP := hid hstep
  have HEND := hid hend
  have HG := hid hG
  have H0 := hid h0
  clear hT hG hstep h0 hbel hend
  go_enter_defers Tryz.func10, Tryz.ntmps10
  go_wp2_with fail
  refine HST.out.mono ?_
  rintro e w4 ⟨D, T, E, rfl, hrep, hb4, hd, ht, he⟩
  simp only [World.size_alloc] at hd ht he
  have hAl : Al w B D T ms 0 E (.slice none 0 0) [] w4 := by
    have hk : ∀ g, g < w.heap.size + 2 → w4.heap[g]? = ((w.alloc (.cells #[.slice none 0 0] 41)).alloc (.cells #[.bool false] 4)).heap[g]? := fun g hg => hb4.block g (by simp; omega)
    have hv : w4.heap[w.heap.size]? = some (.cells #[.slice none 0 0] 41 (0, 0)) := by
      rw [hk _ (by omega), Below.heap_alloc _ _ _ (by simp)]
      exact heap_alloc_new _ _
    have hv1 : w4.heap[w.heap.size + 1]? = some (.cells #[.bool false] 4 (0, 0)) := by
      rw [hk _ (by omega)]
      exact heap_alloc2_new _ _ _
    have hok : (mStart s.data.toList).Ok := by
      refine ⟨by show (0 : Int) ≤ 1; omega, ?_⟩
      show (1 : Int) + ((s.data.toList.length - 0 : Nat) : Int) ≤ 5000
      have : s.data.toList.length = s.size := rfl
      omega
    have hdc : Dc B D T E w4 (ms 0) E w4 := by
      rw [H0.out]
      exact Dc.start hrep (by show 0 + 0 ≤ 0; omega) hok
    exact ⟨hdc, HBEL.out.trans (hb4.mono (by simp; omega)), hv, hv1, rowE_nil _ _ _ _, fun i hi => absurd hi (by omega), by omega, by omega, by omega, by simp [Value.ownBlock], by simp [Value.ownBlock], by simp [Value.ownBlock], hB3, hB⟩
  have HAL := hid hAl
  clear hrep hb4 hd ht he hAl HST HBEL H0
  go_wp2_with fail
  go_loopg [] (n + 1) (fun gh wx => ∃ (k : Nat) (E1 : Nat) (lv : Value) (xs : List Value), k ≤ n ∧ gh = n + 1 - k ∧ Hid (Al w B D T ms k E1 lv xs wx))
  case atStart => exact ⟨0, E, _, _, Nat.zero_le _, rfl, HAL⟩
  case round =>
    obtain ⟨k, E1, lv, xs, hk, hgh, hal⟩ := hrel
    have HGH := hid hgh
    have HNX := hid hal.out.dc.next
    clear HAL hgh
    go_wp2_with fail
    refine HNX.out.mono ?_
    rintro e w5 hx5
    obtain ⟨E2, u, rfl, hR, hd5, hkp, hsz⟩ := hal.out.dc.call ((adv_mNx _).ok hal.out.dc.ok) hx5
    subst hR
    have hg5 : Glob B w5 := hd5.glob (HG.out.grow hal.out.bel)
    have hvl := lt_of_block hal.out.hv
    have hdl : D < wr.heap.size := hal.out.dc.dlt
    have hel : E1 < wr.heap.size := hal.out.dc.st.inE
    have hd3 := hal.out.d3
    have ht3 := hal.out.t3
    have he3 := hal.out.e3
    have hv5 := (hkp w.heap.size hvl (by omega) (by omega)).1.trans hal.out.hv
    have hE2 := (hkp w.heap.size hvl (by omega) (by omega)).2
    have hlvl := rowE_lt hal.out.own
    have hown5 : w5.ownsRow (w.heap.size + 2) 48 10 lv k xs := rowE_keep hal.out.own fun g hg => (hkp g (hlvl g hg).2 (fun e => hal.out.nd (e ▸ hg)) (fun e => hal.out.ne (e ▸ hg))).1
    have hne5 : lv.ownBlock ≠ some E2 := fun hg => by
      have hl := hlvl _ hg
      have hEE : E2 ≠ E1 := fun e => hal.out.ne (e ▸ hg)
      rcases hd5.st.esc with e | e <;> omega
    have hlV : lv.ownBlock ≠ some w.heap.size := fun e => by have := (hlvl _ e).1; omega
    by_cases hlt : k < n
    · obtain ⟨hs1, hs0, hs2⟩ := HSTEP.out k hlt
      rw [hs1]
      have hdd : Dc B D T E2 w5.drew (mNx (ms k)) E2 w5.drew := by
        obtain ⟨es, hr, hes⟩ := hd5.ex
        exact Dc.start hr.drew hes hd5.ok
      have hent := entry_code hdd (hg5.grow ((Below.refl _ _).drew)) hs0
      rw [← hs2] at hent
      have HENT := hid hent
      have HD5 := hid hd5
      have HV5 := hid hv5
      have HOWN5 := hid hown5
      have HLT := hid hlt
      clear hs1 hs0 hs2 hdd hent hg5 hd5 hkp hx5 hv5 hown5 hlt HNX
      go_wp2_with fail
      refine region10_4 (V := w.heap.size) (D := D) (lv := lv) (n := k) (xs := xs) (B0 := w.heap.size + 2) (RT := fun w' cs => ∃ E', EntP (w5.drew.heap.size + 1) E' (mEntry (mNx (ms k))).2 (mFirst (mNx (ms k))).2 w' (.agg cs) ∧ Dc B D T E2 w5.drew (ms (k + 1)) E' w')
        (fun d v c a w hd h => panic10_put hd h) rfl rfl rfl HV5.out (HENT.out.mono fun e w' ⟨v, E', he, hp, hdc⟩ => ?c1) (fun w' cs ⟨E', hp, hdc⟩ => ?c2) (fun w' cs ⟨E', hp, hdc⟩ => ?c3) (fun w' cs ⟨E', hp, hdc⟩ => ?c4) (by omega) hlV ?_
      case c1 =>
        obtain ⟨nm, p, n', c, fv, a, hv, hf⟩ := hp
        exact ⟨_, he.trans (congrArg _ hv), E', ⟨nm, p, n', c, fv, a, rfl, hf⟩, hdc⟩
      case c2 => exact (hdc.old (g := w.heap.size) (by show w.heap.size < w5.heap.size; omega) (by omega) hE2).1.trans HV5.out
      case c3 =>
        refine ⟨rowE_keep HOWN5.out fun g hg => ?_, by have := hdc.st.size; change w5.heap.size ≤ _ at this; omega⟩
        have hl := hlvl g hg
        exact (hdc.old (g := g) (by show g < w5.heap.size; omega) (fun e => hal.out.nd (e ▸ hg)) (fun e => hne5 (e ▸ hg))).1
      case c4 =>
        obtain ⟨nm, p, n', c, fv, a, hv, hf⟩ := hp
        rw [Value.agg.inj hv]
        exact rowOf_one nm p n' c _ _ _ _ fv a _ hf
      rintro w' cs lv' w2 ⟨E', hp, hdc⟩ ho hgr hob
      have hcs : cs.size = 10 := by
        obtain ⟨nm, p, n', c, fv, a, hv, hf⟩ := hp
        rw [Value.agg.inj hv]
        exact (rowOf_one nm p n' c _ _ _ _ fv a _ hf).1
      have HAL2 := hid (hal.out.next ((HD5.out.drewN 1).chain hdc) hcs hp (by show wr.heap.size ≤ w5.heap.size + 1; omega) ho hgr hob)
      clear HENT HD5 HV5 HOWN5 hp hdc ho hgr hob hal hlvl hne5 hlV
      simp only [putAll, Act.put, List.setIfInBounds_toArray, List.set_cons_zero, List.set_cons_succ]
      generalize w2.setCell ⟨w.heap.size, 0, none⟩ lv' = w6 at HAL2 ⊢
      go_wp2_with fail
      go_roundg (n + 1 - (k + 1))
      case measure => have := HLT.out; have := HGH.out; omega
      case rel => exact ⟨k + 1, E', lv', _, by have := HLT.out; omega, rfl, HAL2⟩
    · obtain rfl : k = n := by omega
      rw [HEND.out]
      have h15 := (hkp (w.heap.size + 1) (by have := lt_of_block hal.out.h1; omega) (by omega) (by omega)).1.trans hal.out.h1
      obtain ⟨p, cc, rfl⟩ := rowE_slice hown5
      have c0 : w5.cell? ⟨w.heap.size, 0, none⟩ = some (.slice p k cc) := cell_of_row w5 _ 0 _ _ _ hv5
      have f0 : w5.frozen? ⟨w.heap.size, 0, none⟩ = false := frozen_of_row w5 _ 0 _ _ hv5
      have c1 : w5.cell? ⟨w.heap.size + 1, 0, none⟩ = some (.bool false) := cell_of_row w5 _ 0 _ _ _ h15
      have f1 : w5.frozen? ⟨w.heap.size + 1, 0, none⟩ = false := frozen_of_row w5 _ 0 _ _ h15
      have hsame : ∀ g, g < w5.heap.size → w.heap.size + 2 ≤ g → ((w5.setCell ⟨w.heap.size, 0, none⟩ (.slice p k cc)).setCell ⟨w.heap.size + 1, 0, none⟩ (.bool true)).heap[g]? = w5.heap[g]? := fun g _ hg => by
        rw [heap_setCell_other _ _ g _ (by show g ≠ w.heap.size + 1; omega), heap_setCell_other _ _ g _ (by show g ≠ w.heap.size; omega)]
      have hss : ((w5.setCell ⟨w.heap.size, 0, none⟩ (.slice p k cc)).setCell ⟨w.heap.size + 1, 0, none⟩ (.bool true)).heap.size = w5.heap.size := by simp [World.setCell]
      have g0 : ((w5.setCell ⟨w.heap.size, 0, none⟩ (.slice p k cc)).setCell ⟨w.heap.size + 1, 0, none⟩ (.bool true)).heap[w.heap.size]? = some (.cells #[.slice p k cc] 41 (0, 0)) := by
        rw [heap_setCell_other _ _ _ _ (by show w.heap.size ≠ w.heap.size + 1; omega)]
        exact (heap_setCell_same w5 w.heap.size 0 _ _ _ hv5).trans (by simp)
      have g1 : ((w5.setCell ⟨w.heap.size, 0, none⟩ (.slice p k cc)).setCell ⟨w.heap.size + 1, 0, none⟩ (.bool true)).heap[w.heap.size + 1]? = some (.cells #[.bool true] 4 (0, 0)) :=
        (heap_setCell_same _ (w.heap.size + 1) 0 _ _ (.bool true) ((heap_setCell_other w5 _ (w.heap.size + 1) _ (by show w.heap.size + 1 ≠ w.heap.size; omega)).trans h15)).trans (by simp)
      have hb5 : Below w.heap.size wr w5 := hd5.st.toBelow (by omega) (by omega) hal.out.bel.size
      have gb : Below w.heap.size w ((w5.setCell ⟨w.heap.size, 0, none⟩ (.slice p k cc)).setCell ⟨w.heap.size + 1, 0, none⟩ (.bool true)) :=
        ((hal.out.bel.trans hb5).setCell (by simp) _).setCell (by simp) _
      have go : ((w5.setCell ⟨w.heap.size, 0, none⟩ (.slice p k cc)).setCell ⟨w.heap.size + 1, 0, none⟩ (.bool true)).ownsRow (w.heap.size + 2) 48 10 (.slice p k cc) k xs :=
        rowE_keep hown5 fun g hg => hsame g (by have := (rowE_lt hown5 g hg).2; omega) (hlvl g hg).1
      have grows : ∀ i, i < k → RowAt (w.heap.size + 2) D E1 (.slice p k cc) xs ((w5.setCell ⟨w.heap.size, 0, none⟩ (.slice p k cc)).setCell ⟨w.heap.size + 1, 0, none⟩ (.bool true)) i (mNx (ms i)) := by
        intro i hi
        obtain ⟨nm, p', n', c, fv, a, hrow, hfo, hfx⟩ := hal.out.rows i hi
        refine ⟨nm, p', n', c, fv, a, hrow, hfo.move (fun g hg => ?_) (by omega), hfx⟩
        obtain ⟨q1, q2, q3⟩ := hfo.block g hg
        exact ⟨(hsame g (by omega) q1).trans (hkp g q2 (hfx g hg).1 q3).1, q3, q1⟩
      have GB := hid gb
      have GO := hid go
      have GR := hid grows
      have e0 := cell_of_row _ _ 0 _ _ _ g0
      have e1 := cell_of_row _ _ 0 _ _ _ g1
      have E0 := hid e0
      have E1' := hid e1
      clear hkp hx5 hg5 hd5 hal hown5 hsame hss g0 g1 gb go grows HSTEP HEND HG HNX hb5 hv5 h15 e0 e1
      go_wp2_with fail
      refine leaves_cons (f := 23) (args := #[.pointer (some ⟨w.heap.size, 0, none⟩), .pointer (some ⟨w.heap.size + 1, 0, none⟩)]) (by simp) (by simp [go_sem]) ?_
      refine (catch23 _ _ _).mono ?_
      rintro e u' w'' ⟨rfl, rfl, rfl⟩
      refine ⟨.tuple #[.slice p k cc, .bool true], ?_, .slice p k cc, xs, D, E1, rfl, GO.out, GR.out, GB.out⟩
      have q0 := E0.out
      have q1 := E1'.out
      simp [results, Tryz.results10, go_sem, q0, q1]
end Go.Proofs.YtejlokdcocacaaaGreatDoor
