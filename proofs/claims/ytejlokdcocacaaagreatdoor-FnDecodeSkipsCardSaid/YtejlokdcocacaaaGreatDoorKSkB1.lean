/- The law FnDecodeSkips, by the reference's entries: its frame; the loop over the fields. Printed by gen_skb2.py. -/
import Derived.Test.YtejlokdcocacaaaGreatDoorKSkA
import Derived.Test.YtejlokdcocacaaaGreatDoorKSpecY1
import Derived.Deep.MidRow
import Derived.Deep.Cut
import Derived.Deep.CutRange
namespace Go.Proofs.YtejlokdcocacaaaGreatDoor
open Go.RowKit

/-- What lEntries leaves. -/
def LnP (s : ByteArray) (w : World) (e : Ending) (w' : World) : Prop :=
  ∃ (n : Nat) (lv : Value) (xs : List Value), e = .returned lv ∧ w'.ownsRow (w.heap.size + 1) 48 10 lv n xs ∧ n ≤ 900 ∧ (∀ i, i < n → (mNx (msAt s.data.toList i)).has 1 = true) ∧ (mNx (msAt s.data.toList n)).has 1 = false ∧ Below w.heap.size w w'

theorem below_row {B : Nat} {a b : World} (h : Below B a b) {g : Nat} (hg : B ≤ g) (cs : Array Value) : Below B a (b.setRow g cs) :=
  ⟨(setRow_os _ _ _).trans h.os, (setRow_tape _ _ _).trans h.tape, (setRow_output _ _ _).trans h.output, by have := h.size; simp; omega, fun k hk => (setRow_other b g k cs (by omega)).trans (h.block k hk)⟩

theorem below_drewN {B : Nat} {a b : World} (h : Below B a b) (n : Nat) : Below B a (b.drewN n) := ⟨h.os, h.tape, h.output, h.size, h.block⟩

set_option maxHeartbeats 1000000 in
theorem neq37_self (b : Bool) (x y : Int) (w : World) : (binOp .neq 37 (.agg #[.bool b, .int .i64 x, .int .i64 y, .bool false]) (.agg #[.bool b, .int .i64 x, .int .i64 y, .bool false])).run Tryz.prog w = .ok (.bool false) w := by
  go_simp

section
variable {o : Oper} {v : Value} {ρ : Operand → Value} {w : World}
theorem x_two23 {x y : Operand} {op : Int} (ho : o.op = .buildSlice 24 2 #[(0, x), (1, y)]) (hx : ρ x = .agg #[.int .i64 0, .int .i64 0, .int .i64 0]) (hy : ρ y = .agg #[.int .i64 op, .int .i64 0, .int .i64 0]) :
    (execOp ρ o).run Tryz.prog w = .ok (.value (.slice (some ⟨w.heap.size, 0, none⟩) 2 2)) (w.alloc (.cells #[.int .i64 0, .int .i64 0, .int .i64 0, .int .i64 op, .int .i64 0, .int .i64 0] 23)) := by
  obtain ⟨i0, hi, hz0, hz1, hz2⟩ := info_parts info23z
  have h := run_buildSlice (P := Tryz.prog) w 24 23 2 #[(0, .agg #[.int .i64 0, .int .i64 0, .int .i64 0]), (1, .agg #[.int .i64 op, .int .i64 0, .int .i64 0])] #[.int .i64 0, .int .i64 0, .int .i64 0, .int .i64 op, .int .i64 0, .int .i64 0] i0 _ Tryz.underlying24 hi hz0 (by rw [hz1]; decide) (by rw [hz1]; decide) (by
    rw [hz1]
    have h := Great.fill_whole (s := 3) (by decide) [.agg #[.int .i64 0, .int .i64 0, .int .i64 0], .agg #[.int .i64 op, .int .i64 0, .int .i64 0]] ((Array.range (2 * 3)).map ((Value.agg zA).cells[· % (Value.agg zA).cells.size]!)) (by simp [Value.cells]) (by simp)
    simpa [Value.cells] using h)
  unfold execOp
  simp only [ho, Sem.run_bind, List.map_toArray, List.map_cons, List.map_nil, hx, hy, h, Result.andThen_ok]
  rfl
end

/-- The calls, one more pair appended. -/
theorem calls_more {w : World} {B k : Nat} {v : Value} {op : Int} (h : w.ownsRow B 23 3 v (2 * k) (askL op k)) (hk : k ≤ 900) (hB : B ≤ w.heap.size) :
    ∃ v' w', (Builtin.append_ #[24, 24] 24 #[v, .slice (some ⟨w.heap.size, 0, none⟩) 2 2]).run Tryz.prog (w.alloc (.cells #[.int .i64 0, .int .i64 0, .int .i64 0, .int .i64 op, .int .i64 0, .int .i64 0] 23)) = .ok v' w' ∧ w'.ownsRow B 23 3 v' (2 * (k + 1)) (askL op (k + 1)) ∧ ((w.alloc (.cells #[.int .i64 0, .int .i64 0, .int .i64 0, .int .i64 op, .int .i64 0, .int .i64 0] 23)).grownBy w' v.ownBlock) := by
  have hown : (w.alloc (.cells #[.int .i64 0, .int .i64 0, .int .i64 0, .int .i64 op, .int .i64 0, .int .i64 0] 23)).ownsRow B 23 3 v (2 * k) (askL op k) := rowE_keep h fun g hg => Below.heap_alloc _ _ _ (rowE_lt h g hg).2
  obtain ⟨v', w', h1, h2, h3, _⟩ := run_appE Tryz.underlying24 info23z rfl (by decide) (by decide) _ 24 hown w.heap.size 2 2 #[.int .i64 0, .int .i64 0, .int .i64 0, .int .i64 op, .int .i64 0, .int .i64 0] (heap_alloc_new _ _) rfl (by simp [Value.oneCell']) (by omega) (by simp; omega)
  exact ⟨v', w', h1, h2, h3⟩

theorem grown_below {w w1 w2 : World} {B : Nat} {o : Obj} {v : Value} (h : Below B w w1) (hB : w.heap.size = B) (hg : (w1.alloc o).grownBy w2 v.ownBlock) (hv : ∀ g, v.ownBlock = some g → B ≤ g) : Below B w w2 := by
  have hsz := hg.size
  simp only [World.size_alloc] at hsz
  have hs := h.size
  refine ⟨hg.os.trans h.os, hg.tape.trans h.tape, hg.output.trans h.output, by omega, fun k hk => ?_⟩
  rw [hg.block k (by simp; omega) (fun e => by have := hv k e.symm; omega)]
  exact (Below.heap_alloc w1 o k (by omega)).trans (h.block k hk)

/-- An entry of DecodeAll's, in memory. -/
theorem entry_at {w : World} {B D E n : Nat} {lv : Value} {xs : List Value} {t : List UInt8} (hr : ∀ i, i < n → RowAt B D E lv xs w i (mNx (msAt t i))) {g : Nat} (hc : ∀ j u, xs[j]? = some u → w.cell? ⟨g, j, none⟩ = some u) {i : Nat} (hi : i < n) :
    ∃ (nm : ByteArray) (p : Option Addr) (m c : Nat) (fv : Value) (a : Int), w.rangeAt g (i * 10) (rowOf (.string nm) (.slice p m c) fv a (mEntry (mNx (msAt t i))).2).toList ∧ FldOk B E (mFirst (mNx (msAt t i))).2 w fv := by
  obtain ⟨nm, p, m, c, fv, a, hrow, hf, _⟩ := hr i hi
  refine ⟨nm, p, m, c, fv, a, fun j u hj => hc _ _ ?_, hf⟩
  rw [← hrow, List.getElem?_take] at hj
  split at hj
  · rw [List.getElem?_drop] at hj; exact hj
  · cases hj

/-- An answer of DecodeScript's, in memory. -/
theorem told_at {w : World} {n : Nat} {cs : Nat → Array Value} (hg : ∀ i, (cs i).size = 15) {g : Nat} (hc : ∀ j u, (flatC cs n)[j]? = some u → w.cell? ⟨g, j, none⟩ = some u) {i : Nat} (hi : i < n) : w.rangeAt g (i * 15) (cs i).toList := by
  intro j u hj
  have hjl : j < 15 := by
    have := (List.getElem?_eq_some_iff.1 hj).1
    rw [Array.length_toList, hg] at this
    exact this
  refine hc _ _ ?_
  rw [flatC_get n (fun i _ => hg i) i j hi hjl, ← hj, Array.getElem?_toList]

theorem range_keep {B : Nat} {w w' : World} (h : Below B w w') {g o : Nat} {cs : List Value} (hg : g < B) (hr : w.rangeAt g o cs) : w'.rangeAt g o cs := fun j u hj => (h.cell (p := ⟨g, o + j, none⟩) hg).trans (hr j u hj)

theorem info39s : (Tryz.prog.info? 39).map (·.size) = some 15 := by kernel_rfl

/-- A frame of f4 whose slots 0, 3, 5, 7, 9 are known. -/
structure Fr4 (v0 v3 v5 v7 v9 : Value) (a : Act) : Prop where
  size : a.tmps.size = 211
  t0 : a.tmps.getD 0 undef = v0
  t3 : a.tmps.getD 3 undef = v3
  t5 : a.tmps.getD 5 undef = v5
  t7 : a.tmps.getD 7 undef = v7
  t9 : a.tmps.getD 9 undef = v9
  dfs : a.defers = []

set_option maxRecDepth 100000 in
theorem Fr4.elim {P : Act → Prop} {v0 v3 v5 v7 v9 : Value} (h : ∀ g : Nat → Value, P ⟨(v0 :: g 1 :: g 2 :: v3 :: g 4 :: v5 :: g 6 :: v7 :: g 8 :: v9 :: g 10 :: g 11 :: g 12 :: g 13 :: g 14 :: g 15 :: g 16 :: g 17 :: g 18 :: g 19 :: g 20 :: g 21 :: g 22 :: g 23 :: g 24 :: g 25 :: g 26 :: g 27 :: g 28 :: g 29 :: g 30 :: g 31 :: g 32 :: g 33 :: g 34 :: g 35 :: g 36 :: g 37 :: g 38 :: g 39 :: g 40 :: g 41 :: g 42 :: g 43 :: g 44 :: g 45 :: g 46 :: g 47 :: g 48 :: g 49 :: g 50 :: g 51 :: g 52 :: g 53 :: g 54 :: g 55 :: g 56 :: g 57 :: g 58 :: g 59 :: g 60 :: g 61 :: g 62 :: g 63 :: g 64 :: g 65 :: g 66 :: g 67 :: g 68 :: g 69 :: g 70 :: g 71 :: g 72 :: g 73 :: g 74 :: g 75 :: g 76 :: g 77 :: g 78 :: g 79 :: g 80 :: g 81 :: g 82 :: g 83 :: g 84 :: g 85 :: g 86 :: g 87 :: g 88 :: g 89 :: g 90 :: g 91 :: g 92 :: g 93 :: g 94 :: g 95 :: g 96 :: g 97 :: g 98 :: g 99 :: g 100 :: g 101 :: g 102 :: g 103 :: g 104 :: g 105 :: g 106 :: g 107 :: g 108 :: g 109 :: g 110 :: g 111 :: g 112 :: g 113 :: g 114 :: g 115 :: g 116 :: g 117 :: g 118 :: g 119 :: g 120 :: g 121 :: g 122 :: g 123 :: g 124 :: g 125 :: g 126 :: g 127 :: g 128 :: g 129 :: g 130 :: g 131 :: g 132 :: g 133 :: g 134 :: g 135 :: g 136 :: g 137 :: g 138 :: g 139 :: g 140 :: g 141 :: g 142 :: g 143 :: g 144 :: g 145 :: g 146 :: g 147 :: g 148 :: g 149 :: g 150 :: g 151 :: g 152 :: g 153 :: g 154 :: g 155 :: g 156 :: g 157 :: g 158 :: g 159 :: g 160 :: g 161 :: g 162 :: g 163 :: g 164 :: g 165 :: g 166 :: g 167 :: g 168 :: g 169 :: g 170 :: g 171 :: g 172 :: g 173 :: g 174 :: g 175 :: g 176 :: g 177 :: g 178 :: g 179 :: g 180 :: g 181 :: g 182 :: g 183 :: g 184 :: g 185 :: g 186 :: g 187 :: g 188 :: g 189 :: g 190 :: g 191 :: g 192 :: g 193 :: g 194 :: g 195 :: g 196 :: g 197 :: g 198 :: g 199 :: g 200 :: g 201 :: g 202 :: g 203 :: g 204 :: g 205 :: g 206 :: g 207 :: g 208 :: g 209 :: g 210 :: []).toArray, []⟩) {a : Act} (ha : Fr4 v0 v3 v5 v7 v9 a) : P a := by
  obtain ⟨hsz, rfl, rfl, rfl, rfl, rfl, hd⟩ := ha
  have e := frame_out a hsz
  rw [hd] at e
  generalize hg : (fun i => a.tmps.getD i undef) = g at e
  have hh := h g
  have hi : ∀ i, a.tmps.getD i undef = g i := fun i => congrFun hg i
  rw [hi 0, hi 3, hi 5, hi 7, hi 9] at hh
  rw [e]
  exact hh

theorem at_op {P : Program} {ops : Array Oper} {Q : Exit → Act → World → Prop} {a : Act} {w : World} {rest : List Oper} {o : Oper} (o' : Oper) (_ : o = o') (h : wpList P ops Q (o :: rest) a w) : wpList P ops Q (o :: rest) a w := h

/-- The law from the first comparing loop on, and from the second. -/
noncomputable def z4 : Code := csnd (csnd (csnd (csnd (csnd (csnd (csnd (csnd (csnd (csnd (Tryz.f4.body.getD .skip))))))))))
noncomputable def r4 : Code := csnd z4
noncomputable def z30 : Code := csnd (csnd (csnd r4))
noncomputable def c17 : Code := cfst (cfst z4)
noncomputable def b17 : Code := csnd (cfst z4)
noncomputable def c30 : Code := cfst (cfst z30)
noncomputable def b30 : Code := csnd (cfst z30)
noncomputable def e30 : Code := csnd z30

set_option maxHeartbeats 200000000 in
set_option maxRecDepth 100000 in
theorem law_end {w w3 w7 : World} {B1 B3 D E k : Nat} {s : ByteArray} {q0 q1 q3 : Option Addr} {c0 c1 c3 : Nat} {v0 : Value} {xs1 : List Value} (hn : k ≤ 90) (_ : (k : Int) ≤ 90)
    (HO1 : Hid (w3.ownsRow B1 48 10 (.slice q1 k c1) k xs1)) (HROWS : Hid (∀ i, i < k → RowAt B1 D E (.slice q1 k c1) xs1 w3 i (mNx (msAt s.data.toList i)))) (HHAS : Hid (∀ i, i < k → (mNx (msAt s.data.toList i)).has 1 = true))
    (HB37 : Hid (Below w3.heap.size w3 w7)) (hs37 : w3.heap.size ≤ w7.heap.size) (HBW7 : Hid (Below w.heap.size w w7)) (hsz7 : w.heap.size ≤ w7.heap.size)
    (HO3 : Hid (w7.ownsRow B3 39 15 (.slice q3 (2 * k) c3) (2 * k) (flatC (fcs s.data.toList) (2 * k)))) {K : Act → World → Prop}
    (hK : ∀ a' w', e30.wp Tryz.prog (bodyPost Tryz.prog Tryz.f4 (fun e w' => e = .returned (.bool true) ∧ Below w.heap.size w w')) a' w' → K a' w') {a : Act} (ha : Fr4 v0 (.slice q0 k c0) (.slice q1 k c1) (.slice q3 (2 * k) c3) (.bool true) a) :
    c30.wp Tryz.prog (Exit.then (b30.wp Tryz.prog (Exit.then K (bodyPost Tryz.prog Tryz.f4 (fun e w' => e = .returned (.bool true) ∧ Below w.heap.size w w')))) (Exit.then K (bodyPost Tryz.prog Tryz.f4 (fun e w' => e = .returned (.bool true) ∧ Below w.heap.size w w')))) a w7 := by
  refine Fr4.elim (P := fun a => c30.wp Tryz.prog _ a w7) ?_ ha
  intros
  clear ha
  refine unseq fun K1 hK1 => ?_
  conv at hK => enter [a, w, 1, 2]; whnf
  conv at hK1 => enter [a, w, 1, 2]; whnf
  conv => enter [2]; whnf
  go_wp2_with fail
  go_loopg [137] (k + 1) (fun gh s137 wx => ∃ i : Nat, gh = k + 1 - i ∧ i ≤ k ∧ s137 = .int .i64 i ∧ Hid (Below w7.heap.size w7 wx))
  case atStart => exact ⟨0, rfl, Nat.zero_le _, rfl, Below.refl _ _⟩
  case round =>
  obtain ⟨i, hgh, hi, rfl, hbe⟩ := hrel
  by_cases hlt : i < k
  · as_aux_lemma =>
    obtain ⟨g1, cap1, hv1, hg1l, hg1b, hc1, hn1, hm1⟩ := rowE_cells HO1.out (by omega)
    obtain ⟨g2, cap2, hv2, hg2l, hg2b, hc2, hn2, hm2⟩ := rowE_cells HO3.out (by omega)
    obtain ⟨rfl, rfl⟩ : q1 = some ⟨g1, 0, none⟩ ∧ c1 = cap1 := by injection hv1 with a b c; exact ⟨a, c⟩
    obtain ⟨rfl, rfl⟩ : q3 = some ⟨g2, 0, none⟩ ∧ c3 = cap2 := by injection hv2 with a b c; exact ⟨a, c⟩
    obtain ⟨nm, p1, m1, cc1, fv, av, hr1, hf1⟩ := entry_at HROWS.out hc1 hlt
    have hr2 := told_at (fun i => (fcs_good s.data.toList i).1) hc2 (show 2 * i + 1 < 2 * k by omega)
    have hr3 := told_at (fun i => (fcs_good s.data.toList i).1) hc2 (show 2 * i < 2 * k by omega)
    have et : fcs s.data.toList (2 * i + 1) = toldF (mFirst (mNx (msAt s.data.toList i))).2 := by unfold fcs; rw [if_neg (by omega), show (2 * i + 1) / 2 = i by omega]
    have en : fcs s.data.toList (2 * i) = toldC true ⟨#[]⟩ ⟨#[]⟩ 0 0 false 0 0 false := by unfold fcs; rw [if_pos (by omega), show 2 * i / 2 = i by omega, HHAS.out i hlt]
    rw [et] at hr2
    rw [en] at hr3
    have hbw := HB37.out.trans (hbe.out.mono hs37)
    have hr1w := range_keep hbw hg1l hr1
    have hr2w := range_keep hbe.out hg2l hr2
    have hr3w := range_keep hbe.out hg2l hr3
    have hbs := hbe.out.size
    have hbs3 := hbw.size
    have HLT := hid hlt
    have HGH := hid hgh
    have hiI : (i : Int) < (k : Int) := by omega
    have hone := (rowOf_one nm p1 m1 cc1 _ _ _ _ fv av (mEntry (mNx (msAt s.data.toList i))).2 hf1).2
    have hfn := first_none (mNx (msAt s.data.toList i)) (nx_sec _)
    generalize (mEntry (mNx (msAt s.data.toList i))).2 = r at hr1w hone hfn
    generalize (mFirst (mNx (msAt s.data.toList i))).2 = q at hr2w hf1 hfn
    have HONE : Hid ((rowOf (.string nm) (.slice p1 m1 cc1) fv av r).all (·.oneCell') = true) := hid (Array.all_eq_true_iff_forall_mem.2 fun u hu => hone u (by simpa using hu))
    have HR2 := hid hr2w
    have HR3 := hid hr3w
    have HR1 := hid hr1w
    have HZ11 := hid (heap_alloc_new wr (.cells zE 48))
    have hbel5 := below_row ((Below.refl wr.heap.size wr).alloc (Nat.le_refl _) (.cells zE 48)) (g := wr.heap.size) (Nat.le_refl _) (rowOf (.string nm) (.slice p1 m1 cc1) fv av r)
    have hk11 := setRow_heap (wr.alloc (.cells zE 48)) wr.heap.size _ (rowOf (.string nm) (.slice p1 m1 cc1) fv av r) _ _ HZ11.out
    clear hr1w hr2w hr3w hone
    obtain ⟨K1, hK1⟩ : ∃ K1, wr.heap.size = K1 := ⟨_, rfl⟩
    obtain ⟨v5, hv5⟩ : ∃ v5, (wr.alloc (.cells zE 48)).setRow K1 (rowOf (.string nm) (.slice p1 m1 cc1) fv av r) = v5 := ⟨_, rfl⟩
    rw [hK1] at hbel5 hk11 HZ11
    rw [hv5] at hbel5 hk11
    have hg1K : g1 < K1 := by omega
    have hg2K : g2 < K1 := by omega
    have HR2' := hid (range_keep hbel5 hg2K HR2.out)
    have HR3' := hid (range_keep hbel5 hg2K HR3.out)
    have HZ12 := hid (heap_alloc_new v5 z39)
    have hk15 : K1 < v5.heap.size := lt_of_block hk11
    obtain ⟨K2, hK2⟩ : ∃ K2, v5.heap.size = K2 := ⟨_, rfl⟩
    have hbel6 := below_row ((Below.refl v5.heap.size v5).alloc (Nat.le_refl _) z39) (g := v5.heap.size) (Nat.le_refl _) (toldF q)
    have hk12 := setRow_heap (v5.alloc z39) v5.heap.size _ (toldF q) _ _ HZ12.out
    rw [hK2] at hbel6 hk12 HZ12
    obtain ⟨v6, hv6⟩ : ∃ v6, (v5.alloc z39).setRow K2 (toldF q) = v6 := ⟨_, rfl⟩
    rw [hv6] at hbel6 hk12
    have HK11 := hid ((hbel6.block K1 (by omega)).trans hk11)
    have HK12 := hid hk12
    have HR3'' := hid (range_keep hbel6 (by omega) HR3'.out)
    have hbel7 : Below K1 wr v6 := hbel5.trans (hbel6.mono (by omega))
    have HBE := hid (hbe.out.trans (hbel7.mono (by omega)))
    have hbw7 := hbw.trans (hbel7.mono (by omega))
    have hgd2 := toldF_good q
    have HONE2 : Hid ((toldF q).all (·.oneCell') = true) := hid (Array.all_eq_true_iff_forall_mem.2 fun u hu => hgd2.2 u (by simpa using hu))
    clear hbel5 hk11 hbel6 hk12 hgd2 HR2 HR3 hbe hgh hlt hv1 hv2 hc1 hc2 hr1 hr2 hr3 et en hbw hn1 hn2 hg1b hg2b hm1 hm2
    cases q with
    | none => exact absurd rfl hfn.2
    | err f =>
      obtain rfl := hfn.1 f rfl
      have HF9 : Hid (fv = .slice none 0 0) := hid hf1
      clear hfn hf1 hbw7
      have e2 : ((2 * k : Nat) : Int) = 2 * (k : Int) := by omega
      go_upto_region 33 with (first | (refine at_op ⟨_, .load 48 (.tmp 140), _, _, _, _⟩ rfl ?_; refine wpList_load_mid (op := ⟨_, .load 48 (.tmp 140), _, _, _, _⟩) rfl 48 _ rfl g1 (i * 10) rfl _ _ HR1.out Tryz.underlying48 rfl info48s ?_) | (refine at_op ⟨none, .store 48 (.tmp 14) (.tmp 141), _, _, _, _⟩ rfl ?_; refine wpList_store_row (o := ⟨none, .store 48 (.tmp 14) (.tmp 141), _, _, _, _⟩) rfl 48 _ _ rfl K1 (rowOf (.string nm) (.slice p1 m1 cc1) fv av (.err f)) rfl rfl 48 _ HZ11.out info48s rfl HONE.out ?_; change wpList _ _ _ _ _ ((wr.alloc (.cells zE 48)).setRow K1 (rowOf (.string nm) (.slice p1 m1 cc1) fv av (.err f))); rw [hv5]))
      clear hv5 HR1 HZ11 HONE
      go_upto_region 36 with (first | (refine at_op ⟨_, .load 39 (.tmp 156), _, _, _, _⟩ rfl ?_; refine wpList_load_mid (op := ⟨_, .load 39 (.tmp 156), _, _, _, _⟩) rfl 39 _ rfl g2 ((2 * i + 1) * 15) rfl _ _ HR2'.out Tryz.underlying39 rfl info39s ?_) | (refine at_op ⟨none, .store 39 (.tmp 15) (.tmp 157), _, _, _, _⟩ rfl ?_; refine wpList_store_row (o := ⟨none, .store 39 (.tmp 15) (.tmp 157), _, _, _, _⟩) rfl 39 _ _ rfl K2 (toldF (.err f)) rfl rfl 39 _ HZ12.out info39s rfl HONE2.out ?_; change wpList _ _ _ _ _ ((v5.alloc z39).setRow K2 (toldF (.err f))); rw [hv6]))
      clear hv6 HR2' HZ12 HONE2
      have e2 : v6.cell? ⟨K1, 2, none⟩ = some (.slice none 0 0) := by rw [← HF9.out]; exact cell_of_row v6 K1 2 _ _ _ HK11.out
      have e5 : v6.cell? ⟨K1, 5, none⟩ = some (.bool true) := cell_of_row v6 K1 5 _ _ _ HK11.out
      have e6 : v6.cell? ⟨K1, 6, none⟩ = some (.int .i64 f.line) := cell_of_row v6 K1 6 _ _ _ HK11.out
      have e7 : v6.cell? ⟨K1, 7, none⟩ = some (.int .i64 f.col) := cell_of_row v6 K1 7 _ _ _ HK11.out
      have e8 : v6.cell? ⟨K1, 8, none⟩ = some (.bool false) := cell_of_row v6 K1 8 _ _ _ HK11.out
      have t0 : v6.cell? ⟨K2, 0, none⟩ = some (.bool false) := cell_of_row v6 K2 0 _ _ _ HK12.out
      have t11 : v6.cell? ⟨K2, 11, none⟩ = some (.bool true) := cell_of_row v6 K2 11 _ _ _ HK12.out
      have t12 : v6.cell? ⟨K2, 12, none⟩ = some (.int .i64 f.line) := cell_of_row v6 K2 12 _ _ _ HK12.out
      have t13 : v6.cell? ⟨K2, 13, none⟩ = some (.int .i64 f.col) := cell_of_row v6 K2 13 _ _ _ HK12.out
      have t14 : v6.cell? ⟨K2, 14, none⟩ = some (.bool false) := cell_of_row v6 K2 14 _ _ _ HK12.out
      clear HR3''
      have hneq := neq37_self true f.line f.col
      conv => enter [4]; whnf
      go_quiet (fail)
      go_wp2_with fail
      go_roundg (k + 1 - (i + 1))
      case measure => have := HGH.out; have := HLT.out; omega
      case rel => exact ⟨i + 1, rfl, by have := HLT.out; omega, by go_num, hid (below_drewN HBE.out nq)⟩
    | some d =>
      clear hfn
      obtain ⟨gf, nf, cf, hfv, hfb, hfl, hfe, hf0, hf1, hf2⟩ := hf1
      have HFV := hid hfv
      have hcz : (rowOf (.string nm) (.slice p1 m1 cc1) fv av r).size = 10 := by cases r <;> rfl
      have hc2 : (rowOf (.string nm) (.slice p1 m1 cc1) fv av r)[2]? = some fv := by cases r <;> rfl
      generalize rowOf (.string nm) (.slice p1 m1 cc1) fv av r = cs at hcz hc2 hv5 HK11 HONE HR1 ⊢
      have HCZ := hid hcz
      have HC2 := hid hc2
      clear hcz hc2
      clear hfv
      have hgfK : gf < K1 := by omega
      have f0 : v6.cell? ⟨gf, 0, none⟩ = some (.string ⟨d.key.toArray⟩) := (hbw7.cell (p := ⟨gf, 0, none⟩) hfl).trans hf0
      have f1 : v6.cell? ⟨gf, 1, none⟩ = some (.int .i64 (d.kind : Int)) := (hbw7.cell (p := ⟨gf, 1, none⟩) hfl).trans hf1
      have f2 : v6.cell? ⟨gf, 2, none⟩ = some (.string ⟨d.raw.toArray⟩) := (hbw7.cell (p := ⟨gf, 2, none⟩) hfl).trans hf2
      have hnf : (0 : Int) < (nf : Int) + 1 := by omega
      have hn0 : ((nf : Int) + 1 == 0) = false := by rw [beq_eq_false_iff_ne]; omega
      clear hbw7 hf0 hf1 hf2
      have e2 : ((2 * k : Nat) : Int) = 2 * (k : Int) := by omega
      go_upto_region 33 with (first | (refine at_op ⟨_, .load 48 (.tmp 140), _, _, _, _⟩ rfl ?_; refine wpList_load_mid (op := ⟨_, .load 48 (.tmp 140), _, _, _, _⟩) rfl 48 _ rfl g1 (i * 10) rfl _ _ HR1.out Tryz.underlying48 rfl (by rw [Array.length_toList, HCZ.out]; exact info48s) ?_) | (refine at_op ⟨none, .store 48 (.tmp 14) (.tmp 141), _, _, _, _⟩ rfl ?_; refine wpList_store_row (o := ⟨none, .store 48 (.tmp 14) (.tmp 141), _, _, _, _⟩) rfl 48 _ _ rfl K1 cs rfl rfl 48 _ HZ11.out (by rw [HCZ.out]; exact info48s) (by rw [HCZ.out]; rfl) HONE.out ?_; change wpList _ _ _ _ _ ((wr.alloc (.cells zE 48)).setRow K1 cs); rw [hv5]))
      clear hv5 HR1 HZ11 HONE
      go_upto_region 36 with (first | (refine at_op ⟨_, .load 39 (.tmp 156), _, _, _, _⟩ rfl ?_; refine wpList_load_mid (op := ⟨_, .load 39 (.tmp 156), _, _, _, _⟩) rfl 39 _ rfl g2 ((2 * i + 1) * 15) rfl _ _ HR2'.out Tryz.underlying39 rfl info39s ?_) | (refine at_op ⟨none, .store 39 (.tmp 15) (.tmp 157), _, _, _, _⟩ rfl ?_; refine wpList_store_row (o := ⟨none, .store 39 (.tmp 15) (.tmp 157), _, _, _, _⟩) rfl 39 _ _ rfl K2 (toldF (.some d)) rfl rfl 39 _ HZ12.out info39s rfl HONE2.out ?_; change wpList _ _ _ _ _ ((v5.alloc z39).setRow K2 (toldF (.some d))); rw [hv6]))
      clear hv6 HR2' HZ12 HONE2
      have e2' : v6.cell? ⟨K1, 2, none⟩ = some (.slice (some ⟨gf, 0, none⟩) (nf + 1) cf) := by rw [← HFV.out]; exact (cell_of_row v6 K1 2 _ _ _ HK11.out).trans HC2.out
      have t0 : v6.cell? ⟨K2, 0, none⟩ = some (.bool true) := cell_of_row v6 K2 0 _ _ _ HK12.out
      have t1 : v6.cell? ⟨K2, 1, none⟩ = some (.string ⟨d.key.toArray⟩) := cell_of_row v6 K2 1 _ _ _ HK12.out
      have t2 : v6.cell? ⟨K2, 2, none⟩ = some (.string ⟨d.raw.toArray⟩) := cell_of_row v6 K2 2 _ _ _ HK12.out
      have t3 : v6.cell? ⟨K2, 3, none⟩ = some (.int .i64 (d.kind : Int)) := cell_of_row v6 K2 3 _ _ _ HK12.out
      clear HR3'' HK11 HK12
      conv => enter [4]; whnf
      go_quiet (fail)
      go_wp2_with fail
      go_roundg (k + 1 - (i + 1))
      case measure => have := HGH.out; have := HLT.out; omega
      case rel => exact ⟨i + 1, rfl, by have := HLT.out; omega, by go_num, hid (below_drewN HBE.out nq)⟩
  obtain rfl : k = i := by omega
  have e1 : ¬ (k : Int) < (k : Int) := by omega
  have HBE := hid (HBW7.out.trans (hbe.out.mono hsz7))
  clear hbe hgh hi
  go_wp2_with fail
  go_ret
  exact ⟨rfl, HBE.out⟩
end Go.Proofs.YtejlokdcocacaaaGreatDoor
