/- DecodeScript, whatever its calls, by what told answers. -/
import Derived.Test.YtejlokdcocacaaaGreatDoorScr
import Derived.Test.YtejlokdcocacaaaGreatDoorNan
namespace Go.Proofs.YtejlokdcocacaaaGreatDoor
open Go.RowKit Go.Proofs.YtejlokdcocacaaaGreatDoorW.PrintLast

theorem Rep.five {w w' : World} {B D T E : Nat} {sk : Bool} {s : DSt} (h : Rep w B D T E sk s) (k2 : w'.heap[2]? = w.heap[2]?) (k3 : w'.heap[3]? = w.heap[3]?) (kD : w'.heap[D]? = w.heap[D]?) (kT : w'.heap[T]? = w.heap[T]?) (kE : w'.heap[E]? = w.heap[E]?) : Rep w' B D T E sk s := by
  obtain ⟨C, ec, hC, hC2, hd, h1, hob⟩ := h.dec
  obtain ⟨tc, fr, htx, htt⟩ := h.text
  refine ⟨h.B3, h.tabs.keep k2 k3, h.bD, h.bT, h.DT, h.DE, h.TE, ⟨C, ec, hC, hC2, ?_, h1, ?_⟩, ⟨tc, fr, by rw [kT]; exact htx, htt⟩, h.le1, h.small, h.sec5, h.le0, h.esc1, h.line0, h.line1⟩
  · unfold IsDec; rw [kD]; exact hd
  · rcases hob with ⟨hv, _⟩ | ⟨g, cap, cur, hv, hb, hg, r⟩
    · cases hv
    · cases hv; exact .inr ⟨E, ec, cur, rfl, hb, by rw [kE]; exact hg, r⟩

/-- The answers so far, cell by cell. -/
def flatC (cs : Nat → Array Value) : Nat → List Value
  | 0 => []
  | k + 1 => flatC cs k ++ (cs k).toList

/-- Where DecodeScript stands behind k calls. -/
structure Sc (w : World) (B D T : Nat) (ms : Nat → MSt) (cs : Nat → Array Value) (k E : Nat) (lv : Value) (wx : World) : Prop where
  dc : Dc B D T E wx (ms k) E wx
  bel : Below w.heap.size w wx
  hv : wx.heap[w.heap.size]? = some (.cells #[lv] 25 (0, 0))
  h1 : wx.heap[w.heap.size + 1]? = some (.cells #[.bool false] 4 (0, 0))
  h2 : wx.heap[w.heap.size + 2]? = some (.cells #[.bool false] 4 (0, 0))
  own : wx.ownsRow (w.heap.size + 3) 39 15 lv k (flatC cs k)
  d3 : w.heap.size + 3 ≤ D
  t3 : w.heap.size + 3 ≤ T
  e3 : w.heap.size + 3 ≤ E
  nd : lv.ownBlock ≠ some D
  nt : lv.ownBlock ≠ some T
  ne : lv.ownBlock ≠ some E
  b3 : 3 < B
  bw : B ≤ w.heap.size

theorem ownsRow_lt {w : World} {B n : Nat} {v : Value} {xs : List Value} (h : w.ownsRow B 39 15 v n xs) : ∀ g, v.ownBlock = some g → B ≤ g ∧ g < w.heap.size := by
  intro g hg
  rcases h.2 with ⟨rfl, _⟩ | ⟨g', cap, cur, rfl, hb, hh, _⟩
  · simp [Value.ownBlock] at hg
  · simp [Value.ownBlock] at hg
    subst hg
    exact ⟨hb, lt_of_block hh⟩

theorem ownsRow_keep {w w' : World} {B n : Nat} {v : Value} {xs : List Value} (h : w.ownsRow B 39 15 v n xs) (hk : ∀ g, v.ownBlock = some g → w'.heap[g]? = w.heap[g]?) : w'.ownsRow B 39 15 v n xs := by
  refine ⟨h.1, ?_⟩
  rcases h.2 with h | ⟨g, cap, cur, rfl, hb, hh, r⟩
  · exact .inl h
  · exact .inr ⟨g, cap, cur, rfl, hb, (hk g rfl).trans hh, r⟩

section
variable {w : World} {B D T : Nat} {ms : Nat → MSt} {cs : Nat → Array Value} {k E : Nat} {lv : Value} {wx : World}

theorem Sc.next (h : Sc w B D T ms cs k E lv wx) {o : Obj} {E' : Nat} {w' w2 : World} {lv' : Value} (hrt : Dc B D T E (wx.alloc o).drew (ms (k + 1)) E' w')
    (ho : w2.ownsRow (w.heap.size + 3) 39 15 lv' (k + 1) (flatC cs k ++ (cs k).toList)) (hgr : (w'.alloc (.cells (cs k) 39)).grownBy w2 lv.ownBlock) (hob : lv'.ownBlock = lv.ownBlock ∨ lv'.ownBlock = some (w'.heap.size + 1)) :
    Sc w B D T ms cs (k + 1) E' lv' (w2.setCell ⟨w.heap.size, 0, none⟩ lv') := by
  have hb3 := h.b3
  have hbw := h.bw
  have hd3 := h.d3
  have ht3 := h.t3
  have he3 := h.e3
  have hsz := hrt.st.size
  have hdl : D < wx.heap.size := h.dc.dlt
  have htl : T < wx.heap.size := h.dc.tlt
  obtain ⟨es, hr, hes⟩ := hrt.ex
  have hrl := hr.lt
  have hbs := h.bel.size
  have hvl := lt_of_block h.hv
  have h1l := lt_of_block h.h1
  have h2l := lt_of_block h.h2
  change (wx.alloc o).heap.size ≤ w'.heap.size at hsz
  simp only [World.size_alloc] at hsz
  have hel : E < wx.heap.size := h.dc.st.inE
  have hE' : E' = E ∨ wx.heap.size + 1 ≤ E' := by
    rcases hrt.st.esc with e | e
    · exact .inl e
    · refine .inr ?_
      change (wx.alloc o).heap.size ≤ E' at e
      simpa using e
  -- blocks of wx that are not D, E stay up to w'
  have keep1 : ∀ g, g < wx.heap.size → g ≠ D → g ≠ E → w'.heap[g]? = wx.heap[g]? := fun g hg h1 h2 => by
    have := hrt.st.block g (by show g < (wx.alloc o).heap.size; simp; omega) h1 h2
    rw [this]
    exact Below.heap_alloc wx o g hg
  -- blocks of w' that are not the row's stay up to the end
  have keep2 : ∀ g, g < w'.heap.size → lv.ownBlock ≠ some g → g ≠ w.heap.size → (w2.setCell ⟨w.heap.size, 0, none⟩ lv').heap[g]? = w'.heap[g]? := fun g hg h1 h2 => by
    rw [heap_setCell_other _ _ g _ h2, hgr.block g (by simp; omega) (fun e => h1 e.symm)]
    exact Below.heap_alloc w' _ g hg
  have hlvlt := ownsRow_lt h.own
  have hne' : lv.ownBlock ≠ some E' := by
    intro e
    have := (hlvlt E' e).2
    rcases hE' with e2 | e2
    · rw [e2] at e; exact h.ne e
    · omega
  have hlow : ∀ g, g < w.heap.size + 3 → lv.ownBlock ≠ some g := fun g hg e => by
    have := (hlvlt g e).1; omega
  have hw2s : w'.heap.size + 1 ≤ w2.heap.size := by have := hgr.size; simpa using this
  have hsame : ∀ g, g < w.heap.size + 3 → g ≠ w.heap.size → (w2.setCell ⟨w.heap.size, 0, none⟩ lv').heap[g]? = wx.heap[g]? := fun g h1 h2 =>
    (keep2 g (by omega) (hlow g h1) h2).trans (keep1 g (by omega) (by omega) (by omega))
  have hv2 : w2.heap[w.heap.size]? = some (.cells #[lv] 25 (0, 0)) := by
    rw [hgr.block _ (by simp; omega) (fun e => hlow _ (by omega) e.symm), Below.heap_alloc w' _ _ (by omega), keep1 _ (by omega) (by omega) (by omega)]
    exact h.hv
  have hfin : (w2.setCell ⟨w.heap.size, 0, none⟩ lv').heap[w.heap.size]? = some (.cells #[lv'] 25 (0, 0)) := (heap_setCell_same w2 w.heap.size 0 _ _ lv' hv2).trans (by simp)
  have hrep : Rep (w2.setCell ⟨w.heap.size, 0, none⟩ lv') B D T E' false ((ms (k + 1)).d es) := by
    refine hr.five (keep2 2 (by omega) (hlow 2 (by omega)) (by omega)) (keep2 3 (by omega) (hlow 3 (by omega)) (by omega)) (keep2 D hrl.1 h.nd (by omega)) (keep2 T hrl.2.1 h.nt (by omega)) (keep2 E' hrl.2.2.1 hne' ?_)
    rcases hE' with e | e <;> omega
  refine ⟨Dc.start hrep hes hrt.ok, ?_, hfin, (hsame _ (by omega) (by omega)).trans h.h1, (hsame _ (by omega) (by omega)).trans h.h2, ?_, hd3, ht3, by rcases hE' with e | e <;> omega, ?_, ?_, ?_, hb3, hbw⟩
  · refine ⟨hgr.os.trans (hrt.st.os.trans h.bel.os), hgr.tape.trans (hrt.st.tape.trans h.bel.tape), hgr.output.trans (hrt.st.output.trans h.bel.output), by simp [World.setCell]; omega, fun g hg => (hsame g (by omega) (by omega)).trans (h.bel.block g hg)⟩
  · refine ownsRow_keep ho fun g hg => heap_setCell_other _ _ g _ ?_
    have := (ownsRow_lt ho g hg).1
    intro e
    have e2 : g = w.heap.size := e
    omega
  · rcases hob with e | e
    · rw [e]; exact h.nd
    · rw [e]; intro e2; simp at e2; omega
  · rcases hob with e | e
    · rw [e]; exact h.nt
    · rw [e]; intro e2; simp at e2; omega
  · rcases hob with e | e
    · rw [e]; exact hne'
    · rw [e]; intro e2; simp at e2; omega
end

/-- Calls in memory: a slice of n calls at block b. -/
def AsksAt (w : World) (b n : Nat) (asks : Nat → Int × Int × Int) : Prop := b < w.heap.size ∧ ∀ i, i < n → w.cell? ⟨b, i * 3, none⟩ = some (.int .i64 (asks i).1) ∧ w.cell? ⟨b, i * 3 + 1, none⟩ = some (.int .i64 (asks i).2.1) ∧ w.cell? ⟨b, i * 3 + 2, none⟩ = some (.int .i64 (asks i).2.2)

/-- Err of a decoder over bytes. -/
theorem err_code {w : World} {B D T E E0 : Nat} {w0 : World} {m : MSt} (h : Dc B D T E0 w0 m E w) : Calls Tryz.prog 14 #[.pointer (some ⟨D, 0, none⟩)] w fun e w' => e = .returned .nilIface ∧ w = w' := by
  obtain ⟨es, hr, _⟩ := h.ex
  obtain ⟨C, ec, q1, q2, q3, q4, c0, c1, c2, c3, c4, c5, c6, c7, c8, c9, fz, ho⟩ := hr.cells
  clear c0 c1 c2 c3 c4 c5 c6 c7 c8 fz ho q1 q2 q3 q4 hr h
  go_enter Tryz.func14, Tryz.ntmps14
  go_wp2
  go_ret
  exact ⟨rfl, rfl⟩

set_option maxHeartbeats 4000000 in
set_option maxRecDepth 100000 in
theorem script_code {w : World} {B : Nat} (s : ByteArray) (hs : s.size ≤ 900) (hT : Tabs w) (hB3 : 3 < B) (hB : B ≤ w.heap.size) (hG : Glob B w) (asks : Nat → Int × Int × Int) (n : Nat) (hn : n ≤ 200) (b c : Nat) (hask : AsksAt w b n asks)
    (ms : Nat → MSt) (cs : Nat → Array Value) (h0 : ms 0 = mStart s.data.toList)
    (hstep : ∀ D T E (w1 : World) i, i < n → Glob B w1 → Dc B D T E w1 (ms i) E w1 → Calls Tryz.prog 13 #[.pointer (some ⟨D, 0, none⟩), .agg #[.int .i64 (asks i).1, .int .i64 (asks i).2.1, .int .i64 (asks i).2.2]] w1 fun e w' => e = .returned (.agg (cs i)) ∧ ∃ E', Dc B D T E w1 (ms (i + 1)) E' w')
    (hcs : ∀ i, i < n → (cs i).size = 15 ∧ ∀ u ∈ (cs i).toList, u.oneCell' = true) :
    Calls Tryz.prog 5 #[.string s, .slice none 0 0, .bool false, .slice (some ⟨b, 0, none⟩) n c] w fun e w' => ∃ lv, e = .returned (.tuple #[lv, .bool false, .bool true]) ∧ w'.ownsRow (w.heap.size + 3) 39 15 lv n (flatC cs n) ∧ Below w.heap.size w w' := by
  have hmf := makeFunc_any
  have hbel := (((Below.refl w.heap.size w).alloc (Nat.le_refl _) (.cells #[.slice none 0 0] 25)).alloc (by simp) (.cells #[.bool false] 4)).alloc (by simp; omega) (.cells #[.bool false] 4)
  have HST := hid (start_code (w := ((w.alloc (.cells #[.slice none 0 0] 25)).alloc (.cells #[.bool false] 4)).alloc (.cells #[.bool false] 4)) (B := B) s hs (hT.keep (hbel.block 2 (by omega)) (hbel.block 3 (by omega))) hB3 (by simp; omega))
  have HBEL := hid hbel
  have HASK := hid hask
  have HSTEP := hid hstep
  have HCS := hid hcs
  have HG := hid hG
  have H0 := hid h0
  clear hT hG hask hstep hcs h0 hbel
  go_enter_defers Tryz.func5, Tryz.ntmps5
  go_wp2_with fail
  refine HST.out.mono ?_
  rintro e w4 ⟨D, T, E, rfl, hrep, hb4, hd, ht, he⟩
  simp only [World.size_alloc] at hd ht he
  have hSc : Sc w B D T ms cs 0 E (.slice none 0 0) w4 := by
    have hk : ∀ g, g < w.heap.size + 3 → w4.heap[g]? = ((((w.alloc (.cells #[.slice none 0 0] 25)).alloc (.cells #[.bool false] 4)).alloc (.cells #[.bool false] 4))).heap[g]? := fun g hg => hb4.block g (by simp; omega)
    have hv : w4.heap[w.heap.size]? = some (.cells #[.slice none 0 0] 25 (0, 0)) := by
      rw [hk _ (by omega), Below.heap_alloc _ _ _ (by simp; omega), Below.heap_alloc _ _ _ (by simp)]
      exact heap_alloc_new _ _
    have hv1 : w4.heap[w.heap.size + 1]? = some (.cells #[.bool false] 4 (0, 0)) := by
      rw [hk _ (by omega), Below.heap_alloc _ _ _ (by simp)]
      exact heap_alloc2_new _ _ _
    have hv2 : w4.heap[w.heap.size + 2]? = some (.cells #[.bool false] 4 (0, 0)) := by
      rw [hk _ (by omega)]
      have := heap_alloc_new ((w.alloc (.cells #[.slice none 0 0] 25)).alloc (.cells #[.bool false] 4)) (.cells #[.bool false] 4)
      simpa using this
    have hok : (mStart s.data.toList).Ok := by
      refine ⟨by show (0 : Int) ≤ 1; omega, ?_⟩
      show (1 : Int) + ((s.data.toList.length - 0 : Nat) : Int) ≤ 5000
      have : s.data.toList.length = s.size := rfl
      omega
    have hdc : Dc B D T E w4 (ms 0) E w4 := by
      rw [H0.out]
      exact Dc.start hrep (by show 0 + 0 ≤ 0; omega) hok
    exact ⟨hdc, HBEL.out.trans (hb4.mono (by simp; omega)), hv, hv1, hv2, ⟨rfl, .inl ⟨rfl, rfl⟩⟩, by omega, by omega, by omega, by simp [Value.ownBlock], by simp [Value.ownBlock], by simp [Value.ownBlock], hB3, hB⟩
  have HSC := hid hSc
  clear hrep hb4 hd ht he hSc HST HBEL H0
  go_wp2_with fail
  go_loopw [21] (fun i wx => ∃ (k : Nat) (E1 : Nat) (lv : Value), k ≤ n ∧ i = .int .i64 k ∧ Hid (Sc w B D T ms cs k E1 lv wx)) (fun i _ => n - (intOf i).toNat)
  case atStart => exact ⟨0, E, _, Nat.zero_le _, rfl, HSC⟩
  case round =>
    obtain ⟨k, E1, lv, hk, rfl, hsc⟩ := hrel
    clear HSC
    by_cases hlt : k < n
    · have e1 : (k : Int) < (n : Int) := by omega
      obtain ⟨q0, q1, q2⟩ := HASK.out.2 k hlt
      have hbb := HASK.out.1
      have hbc := fun j => hsc.out.bel.cell (p := ⟨b, j, none⟩) hbb
      rw [← hbc] at q0 q1 q2
      have HLT := hid hlt
      clear hlt hbc
      go_wp2_with fail
      obtain ⟨al, hal⟩ : ∃ al : Obj, al = .cells #[.int .i64 (asks k).1, .int .i64 (asks k).2.1, .int .i64 (asks k).2.2] 23 := ⟨_, rfl⟩
      have hy : Below wr.heap.size wr (wr.alloc al).drew := ((Below.refl _ _).alloc (Nat.le_refl _) al).drew
      have hdy : Dc B D T E1 (wr.alloc al).drew (ms k) E1 (wr.alloc al).drew := by
        obtain ⟨es, hr, hes⟩ := hsc.out.dc.ex
        exact Dc.start (hr.below hy) hes hsc.out.dc.ok
      have hst := HSTEP.out D T E1 (wr.alloc al).drew k HLT.out ((HG.out.grow hsc.out.bel).grow hy) hdy
      have hcc := HCS.out k HLT.out
      have hvl := lt_of_block hsc.out.hv
      have hdl : D < wr.heap.size := hsc.out.dc.dlt
      have htl : T < wr.heap.size := hsc.out.dc.tlt
      have hel : E1 < wr.heap.size := hsc.out.dc.st.inE
      have hd3 := hsc.out.d3
      have ht3 := hsc.out.t3
      have he3 := hsc.out.e3
      have hlvl := ownsRow_lt hsc.out.own
      have hold : ∀ w' E', Dc B D T E1 (wr.alloc al).drew (ms (k + 1)) E' w' → ∀ g, g < wr.heap.size + 1 → g ≠ D → g ≠ E1 → w'.heap[g]? = (wr.alloc al).heap[g]? := fun w' E' hd g h1 h2 h3 =>
        (hd.old (g := g) (by show g < (wr.alloc al).heap.size; simp; omega) h2 h3).1
      have hallow : ∀ g, g < wr.heap.size → (wr.alloc al).heap[g]? = wr.heap[g]? := fun g hg => Below.heap_alloc wr al g hg
      have hxnew : (wr.alloc al).heap[wr.heap.size]? = some (.cells #[.int .i64 (asks k).1, .int .i64 (asks k).2.1, .int .i64 (asks k).2.2] 23 (0, 0)) := by rw [← hal]; exact heap_alloc_new _ _
      have hlow : ∀ g, g < w.heap.size + 3 ∨ wr.heap.size ≤ g → lv.ownBlock ≠ some g := fun g hg e => by
        have := hlvl g e
        omega
      rw [← hal]
      refine region5_6 (V := w.heap.size) (X := wr.heap.size) (D := D) (lv := lv) (n := k) (xs := flatC cs k) (B0 := w.heap.size + 3) (cs := cs k) (op := (asks k).1) (pr := (asks k).2.1) (df := (asks k).2.2) (RT := fun w' => ∃ E', Dc B D T E1 (wr.alloc al).drew (ms (k + 1)) E' w')
        (fun d v c a w hd h => panic5_put hd h) rfl rfl rfl rfl ((hallow _ hvl).trans hsc.out.hv) hxnew hst
        (fun w' ⟨E', hd⟩ => ((hold w' E' hd _ (by omega) (by omega) (by omega)).trans (hallow _ hvl)).trans hsc.out.hv)
        (fun w' ⟨E', hd⟩ => (hold w' E' hd _ (by omega) (by omega) (by omega)).trans hxnew)
        (fun w' ⟨E', hd⟩ => ⟨ownsRow_keep hsc.out.own fun g hg => (hold w' E' hd g (by have := hlvl g hg; omega) (fun e => hsc.out.nd (e ▸ hg)) (fun e => hsc.out.ne (e ▸ hg))).trans (hallow g (hlvl g hg).2), by have := hd.st.size; change (wr.alloc al).heap.size ≤ _ at this; simp at this; omega⟩)
        hcc.1 hcc.2 (by omega) (hlow _ (.inl (by omega))) (hlow _ (.inr (Nat.le_refl _))) ?_
      rintro w' lv' w2 ⟨E', hd'⟩ ho hgr hob
      have HSC2 := hid (hsc.out.next hd' ho hgr hob)
      clear hst hy hdy hold hallow hxnew hlow hcc hd' ho hgr hob hlvl hsc hal q0 q1 q2
      simp only [putAll, Act.put, List.setIfInBounds_toArray, List.set_cons_zero, List.set_cons_succ]
      generalize w2.setCell ⟨w.heap.size, 0, none⟩ lv' = w5 at HSC2 ⊢
      go_wp2_with fail
      go_roundw
      case measure => simp [intOf]; have := HLT.out; omega
      case rel => exact ⟨k + 1, E', lv', by have := HLT.out; omega, by go_num, HSC2⟩
    · obtain rfl : k = n := by omega
      have e1 : ¬ (k : Int) < (k : Int) := by omega
      go_wp2_with fail
      have hdd : Dc B D T E1 wr.drew (ms k) E1 wr.drew := by
        obtain ⟨es, hr, hes⟩ := hsc.out.dc.ex
        exact Dc.start hr.drew hes hsc.out.dc.ok
      have hown := hsc.out.own
      have hbel := hsc.out.bel
      have hlow : ∀ g, g < w.heap.size + 3 → lv.ownBlock ≠ some g := fun g hg e => by
        have := (ownsRow_lt hsc.out.own g e).1
        omega
      have hv0 := hsc.out.hv
      have hv1 := hsc.out.h1
      have hv2 := hsc.out.h2
      refine region5_8 (V := w.heap.size) (V1 := w.heap.size + 1) (V2 := w.heap.size + 2) (D := D) (lv := lv) (fun d v c a w hd h => panic5_put hd h) rfl rfl rfl rfl rfl hv0 hv1 hv2 (by omega) (by omega) (by omega) (ownsRow_slice hown) (err_code hdd) ?_
      have g0 : (((wr.drew.setCell ⟨w.heap.size, 0, none⟩ lv).setCell ⟨w.heap.size + 1, 0, none⟩ (.bool false)).setCell ⟨w.heap.size + 2, 0, none⟩ (.bool true)).heap[w.heap.size]? = some (.cells #[lv] 25 (0, 0)) := by
        rw [heap_setCell_other _ _ _ _ (by show w.heap.size ≠ w.heap.size + 2; omega), heap_setCell_other _ _ _ _ (by show w.heap.size ≠ w.heap.size + 1; omega)]
        exact (heap_setCell_same wr.drew w.heap.size 0 _ _ lv hv0).trans (by simp)
      have g1 : (((wr.drew.setCell ⟨w.heap.size, 0, none⟩ lv).setCell ⟨w.heap.size + 1, 0, none⟩ (.bool false)).setCell ⟨w.heap.size + 2, 0, none⟩ (.bool true)).heap[w.heap.size + 1]? = some (.cells #[.bool false] 4 (0, 0)) := by
        rw [heap_setCell_other _ _ _ _ (by show w.heap.size + 1 ≠ w.heap.size + 2; omega)]
        exact (heap_setCell_same _ (w.heap.size + 1) 0 _ _ (.bool false) ((heap_setCell_other wr.drew _ (w.heap.size + 1) _ (by show w.heap.size + 1 ≠ w.heap.size; omega)).trans hv1)).trans (by simp)
      have g2 : (((wr.drew.setCell ⟨w.heap.size, 0, none⟩ lv).setCell ⟨w.heap.size + 1, 0, none⟩ (.bool false)).setCell ⟨w.heap.size + 2, 0, none⟩ (.bool true)).heap[w.heap.size + 2]? = some (.cells #[.bool true] 4 (0, 0)) :=
        (heap_setCell_same _ (w.heap.size + 2) 0 _ _ (.bool true) (((heap_setCell_other _ _ (w.heap.size + 2) _ (by show w.heap.size + 2 ≠ w.heap.size + 1; omega)).trans (heap_setCell_other wr.drew _ (w.heap.size + 2) _ (by show w.heap.size + 2 ≠ w.heap.size; omega))).trans hv2)).trans (by simp)
      have gb : Below w.heap.size w (((wr.drew.setCell ⟨w.heap.size, 0, none⟩ lv).setCell ⟨w.heap.size + 1, 0, none⟩ (.bool false)).setCell ⟨w.heap.size + 2, 0, none⟩ (.bool true)) :=
        ((hbel.drew.setCell (by simp) _).setCell (by simp) _).setCell (by simp) _
      have go : (((wr.drew.setCell ⟨w.heap.size, 0, none⟩ lv).setCell ⟨w.heap.size + 1, 0, none⟩ (.bool false)).setCell ⟨w.heap.size + 2, 0, none⟩ (.bool true)).ownsRow (w.heap.size + 3) 39 15 lv k (flatC cs k) := by
        refine ownsRow_keep hown fun g hg => ?_
        have hg3 : w.heap.size + 3 ≤ g := (ownsRow_lt hown g hg).1
        rw [heap_setCell_other _ _ g _ (by show g ≠ w.heap.size + 2; omega), heap_setCell_other _ _ g _ (by show g ≠ w.heap.size + 1; omega), heap_setCell_other _ _ g _ (by show g ≠ w.heap.size; omega)]
        rfl
      generalize ((wr.drew.setCell ⟨w.heap.size, 0, none⟩ lv).setCell ⟨w.heap.size + 1, 0, none⟩ (.bool false)).setCell ⟨w.heap.size + 2, 0, none⟩ (.bool true) = w6 at g0 g1 g2 gb go ⊢
      have GB := hid gb
      have GO := hid go
      have c0 : w6.cell? ⟨w.heap.size, 0, none⟩ = some lv := cell_of_row w6 _ 0 _ _ _ g0
      have c1 : w6.cell? ⟨w.heap.size + 1, 0, none⟩ = some (.bool false) := cell_of_row w6 _ 0 _ _ _ g1
      have c2 : w6.cell? ⟨w.heap.size + 2, 0, none⟩ = some (.bool true) := cell_of_row w6 _ 0 _ _ _ g2
      have hslv := ownsRow_slice go
      clear g0 g1 g2 gb go hdd hown hbel hlow hv0 hv1 hv2 hsc HSTEP HCS HASK HG
      obtain ⟨p, nn, cc, rfl⟩ := hslv
      simp only [putAll, Act.put, List.setIfInBounds_toArray, List.set_cons_zero, List.set_cons_succ]
      go_wp2_with fail
      refine leaves_cons (f := 11) (args := #[.pointer (some ⟨w.heap.size, 0, none⟩), .pointer (some ⟨w.heap.size + 1, 0, none⟩), .pointer (some ⟨w.heap.size + 2, 0, none⟩)]) (by simp) (by simp [go_sem]) ?_
      refine (catch11 _ _ _ _).mono ?_
      rintro e u' w'' ⟨rfl, rfl, rfl⟩
      refine ⟨.tuple #[.slice p nn cc, .bool false, .bool true], ?_, .slice p nn cc, rfl, GO.out, GB.out⟩
      simp [results, Tryz.results5, go_sem, c0, c1, c2]
end Go.Proofs.YtejlokdcocacaaaGreatDoor
