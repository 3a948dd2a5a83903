/- DecodeScript's round: an answer appended. -/
import Derived.Test.YtejlokdcocacaaaGreatDoorKTold
import Derived.Great.BuildSlice
import Derived.Great.FillDense
import Derived.Test.YtejlokdcocacaaaGreatDoorKTm
namespace Go.Proofs.YtejlokdcocacaaaGreatDoor
open Go.RowKit Go.Proofs.YtejlokdcocacaaaGreatDoorW.PrintLast

theorem info39z : (Tryz.prog.info? 39).map (fun i => (i.zero, i.size, i.bytes)) = some (some (.agg (toldC false ⟨#[]⟩ ⟨#[]⟩ 0 0 false 0 0 false)), 15, 144) := by kernel_rfl
theorem info23 : (Tryz.prog.info? 23).map (·.size) = some 3 := by kernel_rfl

theorem run_app39 (w : World) (ty : TypeId) {B n : Nat} {v : Value} {xs : List Value} (hown : w.ownsRow B 39 15 v n xs) (g : Nat) (cs : Array Value) (hg : w.heap[g]? = some (.cells cs 39 (0, 0))) (hc : cs.size = 15) (h1 : ∀ u ∈ cs.toList, u.oneCell' = true) (hn : n ≤ 10000) (hB : B ≤ w.heap.size) :
    ∃ v' w', (Builtin.append_ #[25, 25] ty #[v, .slice (some ⟨g, 0, none⟩) 1 1]).run Tryz.prog w = .ok v' w' ∧ w'.ownsRow B 39 15 v' (n + 1) (xs ++ cs.toList) ∧ w.grownBy w' v.ownBlock ∧ (v'.ownBlock = v.ownBlock ∨ v'.ownBlock = some w.heap.size) := by
  obtain ⟨i0, hi, hz0, hz1, hz2⟩ := info_parts info39z
  obtain ⟨v', w', hr, h2, h3, _, h5⟩ := run_append_own_at (P := Tryz.prog) w B 25 ty 39 i0 _ 15 144 Tryz.underlying25 hi hz0 hz1 hz2 rfl (by decide) v n xs hown ⟨g, 0, none⟩ 1 1 cs.toList (by simp; omega) (fun j u hj => by
    rw [Addr.add_lit, cell_of_row w g _ _ _ _ hg]; simpa using hj) h1 (by unfold maxLen; omega) (by omega) hB
  exact ⟨v', w', hr, h2, h3, h5⟩

theorem run_one39 (w : World) (cs : Array Value) (hc : cs.size = 15) : (Instr.buildSlice 25 1 #[(0, .agg cs)]).run Tryz.prog w = .ok (.slice (some ⟨w.heap.size, 0, none⟩) 1 1) (w.alloc (.cells cs 39)) := by
  obtain ⟨i0, hi, hz0, hz1, hz2⟩ := info_parts info39z
  refine run_buildSlice (P := Tryz.prog) w 25 39 1 _ cs i0 _ Tryz.underlying25 hi hz0 (by rw [hz1]; decide) (by rw [hz1]; decide) ?_
  rw [hz1]
  have h := Great.fill_whole (s := 15) (by decide) [.agg cs] ((Array.range (1 * 15)).map ((Value.agg (toldC false ⟨#[]⟩ ⟨#[]⟩ 0 0 false 0 0 false)).cells[· % (Value.agg (toldC false ⟨#[]⟩ ⟨#[]⟩ 0 0 false 0 0 false)).cells.size]!)) (by simpa [Value.cells] using hc) (by simp)
  simpa [Value.cells] using h

section
variable {o : Oper} {v : Value} {ρ : Operand → Value} {w : World}
theorem x_load25 {x : Operand} {V : Nat} (ho : o.op = .load 25 x) (hx : ρ x = .pointer (some ⟨V, 0, none⟩)) (hc : w.heap[V]? = some (.cells #[v] 25 (0, 0))) : (execOp ρ o).run Tryz.prog w = .ok (.value v) w := by
  have h := cell_of_row w V 0 _ _ _ hc
  simp only [List.getElem?_toArray, List.getElem?_cons_zero] at h
  cases o
  simp only at ho
  subst ho
  go_simp
theorem x_load23 {x : Operand} {X : Nat} {cs : Array Value} (ho : o.op = .load 23 x) (hx : ρ x = .pointer (some ⟨X, 0, none⟩)) (hc : w.heap[X]? = some (.cells cs 23 (0, 0))) (h3 : cs.size = 3) : (execOp ρ o).run Tryz.prog w = .ok (.value (.agg cs)) w := by
  have h := run_loadVar_row (P := Tryz.prog) w X 23 23 cs (0, 0) _ hc Tryz.underlying23 rfl (by rw [h3]; exact info23)
  unfold execOp
  simp only [ho, hx, Instr.loadAt, Instr.sureAddr, Sem.run_bind, Sem.run_pure, Result.andThen_ok, h]
theorem x_one39 {x : Operand} {cs : Array Value} (ho : o.op = .buildSlice 25 1 #[(0, x)]) (hx : ρ x = .agg cs) (hc : cs.size = 15) : (execOp ρ o).run Tryz.prog w = .ok (.value (.slice (some ⟨w.heap.size, 0, none⟩) 1 1)) (w.alloc (.cells cs 39)) := by
  have h := run_one39 w cs hc
  unfold execOp
  simp only [ho, Sem.run_bind, List.map_toArray, List.map_cons, List.map_nil, hx, h, Result.andThen_ok]
  rfl
theorem x_app39 {x y : Operand} {a b v' : Value} {w' : World} (ho : o.op = .call { callee := .builtin .append, args := #[x, y], argTypes := #[25, 25] }) (hx : ρ x = a) (hy : ρ y = b) (hr : (Builtin.append_ #[25, 25] o.type #[a, b]).run Tryz.prog w = .ok v' w') : (execOp ρ o).run Tryz.prog w = .ok (.value v') w' := by
  unfold execOp
  simp only [ho, resolve, invoke, builtin, Sem.run_bind, Sem.run_pure, Result.andThen_ok, List.map_toArray, List.map_cons, List.map_nil, hx, hy, hr]
theorem x_store25 {x y : Operand} {V : Nat} {a old : Value} (ho : o.op = .store 25 x y) (hx : ρ x = .pointer (some ⟨V, 0, none⟩)) (hy : ρ y = a) (hsl : ∃ p n c, a = .slice p n c) (hc : w.heap[V]? = some (.cells #[old] 25 (0, 0))) : (execOp ρ o).run Tryz.prog w = .ok .skip (w.setCell ⟨V, 0, none⟩ a) := by
  have h := cell_of_row w V 0 _ _ _ hc
  simp only [List.getElem?_toArray, List.getElem?_cons_zero] at h
  have hf := frozen_of_row w V 0 _ _ hc
  obtain ⟨p, n, c, rfl⟩ := hsl
  cases o
  simp only at ho
  subst ho
  go_simp
end

theorem ownsRow_slice {w : World} {B n : Nat} {v : Value} {xs : List Value} (h : w.ownsRow B 39 15 v n xs) : ∃ p n c, v = .slice p n c := by
  rcases h.2 with ⟨rfl, _⟩ | ⟨g, cap, cur, rfl, _⟩
  · exact ⟨_, _, _, rfl⟩
  · exact ⟨_, _, _, rfl⟩

/-- What a function's end hangs on: its results alone. -/
theorem leaves_results {P : Program} {fn : Func} {t t' : Array Value} {R : Ending → World → Prop} (h : results fn t = results fn t') : ∀ (ds : List Deferred) (u : FrameMode) (w : World), Leaves P fn t R ds u w → Leaves P fn t' R ds u w := by
  have key : ∀ (ds : List Deferred), Leaves P fn t R ds = Leaves P fn t' R ds := by
    intro ds
    induction ds with
    | nil =>
      funext u w
      cases u <;> simp [Leaves, h]
    | cons d ds ih =>
      funext u w
      simp only [Leaves, ih]
  intro ds u w hl
  rw [← key]
  exact hl

theorem results5_put (a : Act) (d : Nat) (v : Value) (hd : 11 ≤ d) : results Tryz.f5 (a.put (some d) v).tmps = results Tryz.f5 a.tmps := by
  have h8 : (a.put (some d) v).tmps[8]?.getD undef = a.tmps[8]?.getD undef := by simp [Act.put, show d ≠ 8 by omega]
  have h9 : (a.put (some d) v).tmps[9]?.getD undef = a.tmps[9]?.getD undef := by simp [Act.put, show d ≠ 9 by omega]
  have h10 : (a.put (some d) v).tmps[10]?.getD undef = a.tmps[10]?.getD undef := by simp [Act.put, show d ≠ 10 by omega]
  simp only [results, Tryz.results5]
  simp [h8, h9, h10]

theorem panic5_put {P : Program} {R : Ending → World → Prop} {c : List PanicEntry} {a : Act} {w : World} {d : Nat} {v : Value} (hd : 11 ≤ d) (h : bodyPostD P Tryz.f5 R (.panic c) (a.put (some d) v) w) : bodyPostD P Tryz.f5 R (.panic c) a w :=
  leaves_results (results5_put a d v hd) _ _ _ h

noncomputable def ops5_6 : Array Oper := (Tryz.f5.body.bind (findRegion 6)).getD #[]

set_option maxHeartbeats 4000000 in
set_option maxRecDepth 100000 in
theorem region5_6 {Q : Exit → Act → World → Prop} {a : Act} {w : World} {V X D : Nat} {lv : Value} {n : Nat} {xs : List Value} {B0 : Nat} {cs : Array Value} {op pr df : Int} {RT : World → Prop}
    (hQ : ∀ (d : Tmp) (v : Value) (c : List PanicEntry) (a : Act) (w : World), 11 ≤ d → Q (.panic c) (a.put (some d) v) w → Q (.panic c) a w) (hsz : a.tmps.size = 36)
    (h8 : a.eval (.tmp 8) = .pointer (some ⟨V, 0, none⟩)) (h11 : a.eval (.tmp 11) = .pointer (some ⟨D, 0, none⟩)) (h13 : a.eval (.tmp 13) = .pointer (some ⟨X, 0, none⟩))
    (hV : w.heap[V]? = some (.cells #[lv] 25 (0, 0))) (hX : w.heap[X]? = some (.cells #[.int .i64 op, .int .i64 pr, .int .i64 df] 23 (0, 0)))
    (hT : Calls Tryz.prog 13 #[.pointer (some ⟨D, 0, none⟩), .agg #[.int .i64 op, .int .i64 pr, .int .i64 df]] w.drew fun e w' => e = .returned (.agg cs) ∧ RT w')
    (hRV : ∀ w', RT w' → w'.heap[V]? = some (.cells #[lv] 25 (0, 0)))
    (hRX : ∀ w', RT w' → w'.heap[X]? = some (.cells #[.int .i64 op, .int .i64 pr, .int .i64 df] 23 (0, 0)))
    (hRO : ∀ w', RT w' → w'.ownsRow B0 39 15 lv n xs ∧ B0 ≤ w'.heap.size)
    (hc : cs.size = 15) (h1 : ∀ u ∈ cs.toList, u.oneCell' = true) (hn : n ≤ 10000) (hlV : lv.ownBlock ≠ some V) (hlX : lv.ownBlock ≠ some X)
    (hend : ∀ w' lv' w2, RT w' → w2.ownsRow B0 39 15 lv' (n + 1) (xs ++ cs.toList) → (w'.alloc (.cells cs 39)).grownBy w2 lv.ownBlock → (lv'.ownBlock = lv.ownBlock ∨ lv'.ownBlock = some (w'.heap.size + 1)) →
      Q .normal (putAll (putAll a [(25, lv), (26, .pointer (some ⟨D, 0, none⟩)), (27, .agg #[.int .i64 op, .int .i64 pr, .int .i64 df])]) [(28, .agg cs), (29, .slice (some ⟨w'.heap.size, 0, none⟩) 1 1), (30, lv')]) (w2.setCell ⟨V, 0, none⟩ lv')) :
    (Code.region 6 ops5_6 true).wp Tryz.prog Q a w := by
  generalize ho2 : ops5_6 = ops
  conv at ho2 => lhs; whnf
  subst ho2
  refine start_ (n := 7) (S := fun w9 : World => w9.heap[V]? = some (.cells #[lv] 25 (0, 0)) ∧ w9.heap[X]? = some (.cells #[.int .i64 op, .int .i64 pr, .int .i64 df] 23 (0, 0))) (ds := [6]) #[false, false, false, false, false, false, false] (by kernel_rfl) rfl rfl ⟨hV, hX⟩ (fun hHeld => ?_)
  refine take_ (i := 0) (N := some 25) (v := lv) #[true, false, false, false, false, false, false] rfl rfl (by kernel_rfl) (fun c a w => hQ 25 _ c a w (by decide)) (y_of rfl fun w9 hs9 => x_load25 rfl (by simp only [h8]) hs9.1) hHeld rfl ?_
  refine take_ (i := 1) (N := some 26) (v := .pointer (some ⟨D, 0, none⟩)) #[true, true, false, false, false, false, false] rfl rfl (by kernel_rfl) (fun c a w => hQ 26 _ c a w (by decide)) (y_of rfl fun w9 hs9 => x_move rfl (by simp (disch := first | decide | ((repeat rw [put_size]); rw [hsz]; decide)) only [put_ne, h11])) hHeld rfl ?_
  refine take_ (i := 2) (N := some 27) (v := .agg #[.int .i64 op, .int .i64 pr, .int .i64 df]) #[true, true, true, false, false, false, false] rfl rfl (by kernel_rfl) (fun c a w => hQ 27 _ c a w (by decide)) (y_of rfl fun w9 hs9 => x_load23 rfl (by simp (disch := first | decide | ((repeat rw [put_size]); rw [hsz]; decide)) only [put_ne, h13]) hs9.2 rfl) hHeld rfl ?_
  obtain ⟨A, hA⟩ : ∃ A, putAll a [(25, lv), (26, .pointer (some ⟨D, 0, none⟩)), (27, .agg #[.int .i64 op, .int .i64 pr, .int .i64 df])] = A := ⟨_, rfl⟩
  refine norm_ (a' := A) hA ?_
  have hAs : A.tmps.size = 36 := by rw [← hA]; simp only [putAll, put_size, hsz]
  have hA8 : A.eval (.tmp 8) = .pointer (some ⟨V, 0, none⟩) := by rw [← hA]; simp only [putAll]; simp (disch := first | decide | ((repeat rw [put_size]); rw [hsz]; decide)) only [put_ne, h8]
  have hA25 : A.eval (.tmp 25) = lv := by rw [← hA]; simp only [putAll]; simp (disch := first | decide | ((repeat rw [put_size]); rw [hsz]; decide)) only [put_ne, put_same]
  have hA26 : A.eval (.tmp 26) = .pointer (some ⟨D, 0, none⟩) := by rw [← hA]; simp only [putAll]; simp (disch := first | decide | ((repeat rw [put_size]); rw [hsz]; decide)) only [put_ne, put_same]
  have hA27 : A.eval (.tmp 27) = .agg #[.int .i64 op, .int .i64 pr, .int .i64 df] := by rw [← hA]; exact put_same _ _ _ (by (repeat rw [put_size]); rw [hsz]; decide)
  have HA := hid hA
  clear hA
  refine one_ (i := 3) (N := some 28) #[true, true, true, true, false, false, false] rfl rfl (by kernel_rfl) (by decide) ?_
  intro K hK
  refine goes_ Tryz.func13 rfl rfl #[.pointer (some ⟨D, 0, none⟩), .agg #[.int .i64 op, .int .i64 pr, .int .i64 df]] rfl rfl rfl (by simp only [List.map_toArray, List.map_cons, List.map_nil, hA26, hA27]) ?_
  refine hT.mono ?_
  rintro e w1 ⟨rfl, hrt⟩
  have hv1 := hRV _ hrt
  have hx1 := hRX _ hrt
  obtain ⟨hown, hB0⟩ := hRO _ hrt
  refine ⟨_, rfl, hK _ _ ⟨hv1, hx1⟩ (fun hHeld1 => ?_)⟩
  clear hK K
  obtain ⟨A2, hA2⟩ : ∃ A2, Act.put A (some 28) (.agg cs) = A2 := ⟨_, rfl⟩
  refine norm_ (a' := A2) hA2 ?_
  have hBs : A2.tmps.size = 36 := by rw [← hA2, put_size, hAs]
  have hB28 : A2.eval (.tmp 28) = .agg cs := by rw [← hA2]; exact put_same _ _ _ (by rw [hAs]; decide)
  have hB25 : A2.eval (.tmp 25) = lv := by rw [← hA2, put_ne _ _ _ _ (by decide)]; exact hA25
  have hB8 : A2.eval (.tmp 8) = .pointer (some ⟨V, 0, none⟩) := by rw [← hA2, put_ne _ _ _ _ (by decide)]; exact hA8
  refine one_ (i := 4) (N := some 29) #[true, true, true, true, true, false, false] rfl rfl (by kernel_rfl) (by decide) ?_
  intro K hK
  refine value_ rfl rfl (x_one39 (cs := cs) rfl hB28 hc) ?_
  have hv2 := (Below.heap_alloc w1 (.cells cs 39) V (lt_of_block hv1)).trans hv1
  have hx2 := (Below.heap_alloc w1 (.cells cs 39) X (lt_of_block hx1)).trans hx1
  refine hK _ _ ⟨hv2, hx2⟩ (fun hHeld2 => ?_)
  clear hK K
  obtain ⟨A3, hA3⟩ : ∃ A3, Act.put A2 (some 29) (.slice (some ⟨w1.heap.size, 0, none⟩) 1 1) = A3 := ⟨_, rfl⟩
  refine norm_ (a' := A3) hA3 ?_
  have hCs : A3.tmps.size = 36 := by rw [← hA3, put_size, hBs]
  have hC29 : A3.eval (.tmp 29) = .slice (some ⟨w1.heap.size, 0, none⟩) 1 1 := by rw [← hA3]; exact put_same _ _ _ (by rw [hBs]; decide)
  have hC25 : A3.eval (.tmp 25) = lv := by rw [← hA3, put_ne _ _ _ _ (by decide)]; exact hB25
  have hC8 : A3.eval (.tmp 8) = .pointer (some ⟨V, 0, none⟩) := by rw [← hA3, put_ne _ _ _ _ (by decide)]; exact hB8
  have hown2 : (w1.alloc (.cells cs 39)).ownsRow B0 39 15 lv n xs := by
    refine ⟨hown.1, ?_⟩
    rcases hown.2 with h | ⟨g, cap, cur, hv, hb, hg, r⟩
    · exact .inl h
    · exact .inr ⟨g, cap, cur, hv, hb, (Below.heap_alloc w1 _ g (lt_of_block hg)).trans hg, r⟩
  obtain ⟨lv', w2, hr, ho3, hgr, hob⟩ := run_app39 (w1.alloc (.cells cs 39)) 25 hown2 w1.heap.size cs (heap_alloc_new _ _) hc h1 hn (by simp; omega)
  simp only [World.size_alloc] at hob
  have hv3 := (hgr.block V (by simp; have := lt_of_block hv1; omega) (fun e => hlV e.symm)).trans hv2
  refine one_ (i := 5) (N := some 30) #[true, true, true, true, true, true, false] rfl rfl (by kernel_rfl) (by decide) ?_
  intro K hK
  refine value_ rfl rfl (x_app39 (a := lv) (b := .slice (some ⟨w1.heap.size, 0, none⟩) 1 1) rfl hC25 hC29 hr) ?_
  refine hK _ _ ⟨hv3, (hgr.block X (by simp; have := lt_of_block hx1; omega) (fun e => hlX e.symm)).trans hx2⟩ (fun hHeld3 => ?_)
  clear hK K
  obtain ⟨A4, hA4⟩ : ∃ A4, Act.put A3 (some 30) lv' = A4 := ⟨_, rfl⟩
  refine norm_ (a' := A4) hA4 ?_
  have hD30 : A4.eval (.tmp 30) = lv' := by rw [← hA4]; exact put_same _ _ _ (by rw [hCs]; decide)
  have hD8 : A4.eval (.tmp 8) = .pointer (some ⟨V, 0, none⟩) := by rw [← hA4, put_ne _ _ _ _ (by decide)]; exact hC8
  refine last_ (i := 6) (N := none) #[true, true, true, true, true, true, true] rfl rfl (by kernel_rfl) (by decide) ?_
  intro K hK
  refine skip_ (by rfl) rfl (x_store25 rfl hD8 hD30 (ownsRow_slice ho3) hv3) ?_
  refine hK _ _ ?_
  refine done_ (by kernel_rfl) ?_
  rw [← hA4, ← hA3, ← hA2, ← HA.out]
  exact hend _ _ _ hrt ho3 hgr hob

section
variable {o : Oper} {v : Value} {ρ : Operand → Value} {w : World}
theorem x_neq57 {x : Operand} (ho : o.op = .binOp .neq 57 x (.const .nilIface) 57) (hx : ρ x = .nilIface) (hy : ρ (.const .nilIface) = .nilIface) : (execOp ρ o).run Tryz.prog w = .ok (.value (.bool false)) w := by
  have hgd := guard_nil .neq 57 x .nilIface .nilIface
  have hv : (binOp .neq 57 .nilIface .nilIface).run Tryz.prog w = .ok (.bool false) w := by kernel_rfl
  cases o
  simp only at ho
  subst ho
  go_simp
theorem x_store4 {x y : Operand} {V : Nat} {a old : Bool} (ho : o.op = .store 4 x y) (hx : ρ x = .pointer (some ⟨V, 0, none⟩)) (hy : ρ y = .bool a) (hc : w.heap[V]? = some (.cells #[.bool old] 4 (0, 0))) : (execOp ρ o).run Tryz.prog w = .ok .skip (w.setCell ⟨V, 0, none⟩ (.bool a)) := by
  have h := cell_of_row w V 0 _ _ _ hc
  simp only [List.getElem?_toArray, List.getElem?_cons_zero] at h
  have hf := frozen_of_row w V 0 _ _ hc
  cases o
  simp only at ho
  subst ho
  go_simp
end

noncomputable def ops5_8 : Array Oper := (Tryz.f5.body.bind (findRegion 8)).getD #[]

set_option maxHeartbeats 4000000 in
set_option maxRecDepth 100000 in
theorem region5_8 {Q : Exit → Act → World → Prop} {a : Act} {w : World} {V V1 V2 D : Nat} {lv : Value} {b1 b2 : Bool}
    (hQ : ∀ (d : Tmp) (v : Value) (c : List PanicEntry) (a : Act) (w : World), 11 ≤ d → Q (.panic c) (a.put (some d) v) w → Q (.panic c) a w) (hsz : a.tmps.size = 36)
    (h8 : a.eval (.tmp 8) = .pointer (some ⟨V, 0, none⟩)) (h9 : a.eval (.tmp 9) = .pointer (some ⟨V1, 0, none⟩)) (h10 : a.eval (.tmp 10) = .pointer (some ⟨V2, 0, none⟩)) (h11 : a.eval (.tmp 11) = .pointer (some ⟨D, 0, none⟩))
    (hV : w.heap[V]? = some (.cells #[lv] 25 (0, 0))) (hV1 : w.heap[V1]? = some (.cells #[.bool b1] 4 (0, 0))) (hV2 : w.heap[V2]? = some (.cells #[.bool b2] 4 (0, 0))) (n01 : V1 ≠ V) (n02 : V2 ≠ V) (n12 : V2 ≠ V1)
    (hsl : ∃ p n c, lv = .slice p n c)
    (hT : Calls Tryz.prog 14 #[.pointer (some ⟨D, 0, none⟩)] w.drew fun e w' => e = .returned .nilIface ∧ w.drew = w')
    (hend : Q .normal (putAll a [(32, lv), (33, .pointer (some ⟨D, 0, none⟩)), (34, .nilIface), (35, .bool false)]) (((w.drew.setCell ⟨V, 0, none⟩ lv).setCell ⟨V1, 0, none⟩ (.bool false)).setCell ⟨V2, 0, none⟩ (.bool true))) :
    (Code.region 8 ops5_8 true).wp Tryz.prog Q a w := by
  generalize ho2 : ops5_8 = ops
  conv at ho2 => lhs; whnf
  subst ho2
  have hv1 : (w.drew.setCell ⟨V, 0, none⟩ lv).heap[V1]? = some (.cells #[.bool b1] 4 (0, 0)) := (heap_setCell_other _ _ V1 _ n01).trans hV1
  have hv2 : ((w.drew.setCell ⟨V, 0, none⟩ lv).setCell ⟨V1, 0, none⟩ (.bool false)).heap[V2]? = some (.cells #[.bool b2] 4 (0, 0)) := ((heap_setCell_other _ _ V2 _ n12).trans (heap_setCell_other _ _ V2 _ n02)).trans hV2
  refine start_ (n := 7) (S := fun w9 : World => w9.heap[V]? = some (.cells #[lv] 25 (0, 0))) (ds := [4, 5, 6]) #[false, false, false, false, false, false, false] (by kernel_rfl) rfl rfl hV (fun hHeld => ?_)
  refine take_ (i := 0) (N := some 32) (v := lv) #[true, false, false, false, false, false, false] rfl rfl (by kernel_rfl) (fun c a w => hQ 32 _ c a w (by decide)) (y_of rfl fun w9 hs9 => x_load25 rfl (by simp only [h8]) hs9) hHeld rfl ?_
  refine pure_ (i := 1) (N := some 33) (v := .pointer (some ⟨D, 0, none⟩)) #[true, true, false, false, false, false, false] rfl rfl (by kernel_rfl) (fun c a w => hQ 33 _ c a w (by decide)) (.inl ⟨by simp [Region.wanted], fun w9 => x_move rfl (by simp (disch := first | decide | ((repeat rw [put_size]); rw [hsz]; decide)) only [put_ne, h11])⟩) rfl ?_
  obtain ⟨A, hA⟩ : ∃ A, putAll a [(32, lv), (33, .pointer (some ⟨D, 0, none⟩))] = A := ⟨_, rfl⟩
  refine norm_ (a' := A) hA ?_
  have hAs : A.tmps.size = 36 := by rw [← hA]; simp only [putAll, put_size, hsz]
  have hA8 : A.eval (.tmp 8) = .pointer (some ⟨V, 0, none⟩) := by rw [← hA]; simp only [putAll]; simp (disch := first | decide | ((repeat rw [put_size]); rw [hsz]; decide)) only [put_ne, h8]
  have hA9 : A.eval (.tmp 9) = .pointer (some ⟨V1, 0, none⟩) := by rw [← hA]; simp only [putAll]; simp (disch := first | decide | ((repeat rw [put_size]); rw [hsz]; decide)) only [put_ne, h9]
  have hA10 : A.eval (.tmp 10) = .pointer (some ⟨V2, 0, none⟩) := by rw [← hA]; simp only [putAll]; simp (disch := first | decide | ((repeat rw [put_size]); rw [hsz]; decide)) only [put_ne, h10]
  have hA32 : A.eval (.tmp 32) = lv := by rw [← hA]; simp only [putAll]; simp (disch := first | decide | ((repeat rw [put_size]); rw [hsz]; decide)) only [put_ne, put_same]
  have hA33 : A.eval (.tmp 33) = .pointer (some ⟨D, 0, none⟩) := by rw [← hA]; exact put_same _ _ _ (by (repeat rw [put_size]); rw [hsz]; decide)
  have HA := hid hA
  clear hA
  refine one_ (i := 2) (N := some 34) #[true, true, true, false, false, false, false] rfl rfl (by kernel_rfl) (by decide) ?_
  intro K hK
  refine goes_ Tryz.func14 rfl rfl #[.pointer (some ⟨D, 0, none⟩)] rfl rfl rfl (by simp only [List.map_toArray, List.map_cons, List.map_nil, hA33]) ?_
  refine hT.mono ?_
  rintro e w1 ⟨rfl, rfl⟩
  refine ⟨_, rfl, hK _ _ hV (fun hHeld1 => ?_)⟩
  clear hK K
  refine pure_ (i := 3) (N := some 35) (v := .bool false) #[true, true, true, true, false, false, false] rfl rfl (by kernel_rfl) (fun c a w => hQ 35 _ c a w (by decide)) (.inl ⟨by simp [Region.wanted], fun w9 => x_neq57 rfl (by exact put_same _ _ _ (by rw [hAs]; decide)) rfl⟩) rfl ?_
  obtain ⟨A2, hA2⟩ : ∃ A2, Act.put (Act.put A (some 34) .nilIface) (some 35) (.bool false) = A2 := ⟨_, rfl⟩
  refine norm_ (a' := A2) hA2 ?_
  have hB35 : A2.eval (.tmp 35) = .bool false := by rw [← hA2]; exact put_same _ _ _ (by rw [put_size, hAs]; decide)
  have hB32 : A2.eval (.tmp 32) = lv := by rw [← hA2, put_ne _ _ _ _ (by decide), put_ne _ _ _ _ (by decide)]; exact hA32
  have hB8 : A2.eval (.tmp 8) = .pointer (some ⟨V, 0, none⟩) := by rw [← hA2, put_ne _ _ _ _ (by decide), put_ne _ _ _ _ (by decide)]; exact hA8
  have hB9 : A2.eval (.tmp 9) = .pointer (some ⟨V1, 0, none⟩) := by rw [← hA2, put_ne _ _ _ _ (by decide), put_ne _ _ _ _ (by decide)]; exact hA9
  have hB10 : A2.eval (.tmp 10) = .pointer (some ⟨V2, 0, none⟩) := by rw [← hA2, put_ne _ _ _ _ (by decide), put_ne _ _ _ _ (by decide)]; exact hA10
  refine last_ (i := 4) (N := none) #[true, true, true, true, true, false, false] rfl rfl (by kernel_rfl) (by decide) ?_
  intro K hK
  refine skip_ (by rfl) rfl (x_store25 rfl hB8 hB32 hsl hV) ?_
  refine hK _ _ ?_
  refine last_ (i := 5) (N := none) #[true, true, true, true, true, true, false] rfl rfl (by kernel_rfl) (by decide) ?_
  intro K hK
  refine skip_ (by rfl) rfl (x_store4 rfl hB9 hB35 hv1) ?_
  refine hK _ _ ?_
  refine last_ (i := 6) (N := none) #[true, true, true, true, true, true, true] rfl rfl (by kernel_rfl) (by decide) ?_
  intro K hK
  refine skip_ (by rfl) rfl (x_store4 rfl hB10 rfl hv2) ?_
  refine hK _ _ ?_
  refine done_ (by kernel_rfl) ?_
  rw [← hA2, ← HA.out]
  exact hend
end Go.Proofs.YtejlokdcocacaaaGreatDoor

/- DecodeScript, whatever its calls, by what told answers. -/
namespace Go.Proofs.YtejlokdcocacaaaGreatDoor
open Go.RowKit Go.Proofs.YtejlokdcocacaaaGreatDoorW.PrintLast

theorem Rep.five {w w' : World} {B D T E : Nat} {sk : Bool} {s : DSt} (h : Rep w B D T E sk s) (k2 : w'.heap[2]? = w.heap[2]?) (k3 : w'.heap[3]? = w.heap[3]?) (kD : w'.heap[D]? = w.heap[D]?) (kT : w'.heap[T]? = w.heap[T]?) (kE : w'.heap[E]? = w.heap[E]?) : Rep w' B D T E sk s := by
  obtain ⟨C, ec, hC, hC2, hd, h1, hob⟩ := h.dec
  obtain ⟨tc, fr, htx, htt⟩ := h.text
  refine ⟨h.B3, h.tabs.keep k2 k3, h.bD, h.bT, h.DT, h.DE, h.TE, ⟨C, ec, hC, hC2, ?_, h1, ?_⟩, ⟨tc, fr, by rw [kT]; exact htx, htt⟩, h.le1, h.small, h.sec5, h.le0, h.esc1, h.line0, h.line1⟩
  · unfold IsDec; rw [kD]; exact hd
  · rcases hob with ⟨hv, _⟩ | ⟨g, cap, cur, hv, hb, hg, r⟩
    · cases hv
    · cases hv; exact .inr ⟨E, ec, cur, rfl, hb, by rw [kE]; exact hg, r⟩

/-- The answers so far, cell by cell. -/
def flatC (cs : Nat → Array Value) : Nat → List Value
  | 0 => []
  | k + 1 => flatC cs k ++ (cs k).toList

/-- Where DecodeScript stands behind k calls. -/
structure Sc (w : World) (B D T : Nat) (ms : Nat → MSt) (cs : Nat → Array Value) (k E : Nat) (lv : Value) (wx : World) : Prop where
  dc : Dc B D T E wx (ms k) E wx
  bel : Below w.heap.size w wx
  hv : wx.heap[w.heap.size]? = some (.cells #[lv] 25 (0, 0))
  h1 : wx.heap[w.heap.size + 1]? = some (.cells #[.bool false] 4 (0, 0))
  h2 : wx.heap[w.heap.size + 2]? = some (.cells #[.bool false] 4 (0, 0))
  own : wx.ownsRow (w.heap.size + 3) 39 15 lv k (flatC cs k)
  d3 : w.heap.size + 3 ≤ D
  t3 : w.heap.size + 3 ≤ T
  e3 : w.heap.size + 3 ≤ E
  nd : lv.ownBlock ≠ some D
  nt : lv.ownBlock ≠ some T
  ne : lv.ownBlock ≠ some E
  b3 : 3 < B
  bw : B ≤ w.heap.size

theorem ownsRow_lt {w : World} {B n : Nat} {v : Value} {xs : List Value} (h : w.ownsRow B 39 15 v n xs) : ∀ g, v.ownBlock = some g → B ≤ g ∧ g < w.heap.size := by
  intro g hg
  rcases h.2 with ⟨rfl, _⟩ | ⟨g', cap, cur, rfl, hb, hh, _⟩
  · simp [Value.ownBlock] at hg
  · simp [Value.ownBlock] at hg
    subst hg
    exact ⟨hb, lt_of_block hh⟩

theorem ownsRow_keep {w w' : World} {B n : Nat} {v : Value} {xs : List Value} (h : w.ownsRow B 39 15 v n xs) (hk : ∀ g, v.ownBlock = some g → w'.heap[g]? = w.heap[g]?) : w'.ownsRow B 39 15 v n xs := by
  refine ⟨h.1, ?_⟩
  rcases h.2 with h | ⟨g, cap, cur, rfl, hb, hh, r⟩
  · exact .inl h
  · exact .inr ⟨g, cap, cur, rfl, hb, (hk g rfl).trans hh, r⟩

section
variable {w : World} {B D T : Nat} {ms : Nat → MSt} {cs : Nat → Array Value} {k E : Nat} {lv : Value} {wx : World}

theorem Sc.next (h : Sc w B D T ms cs k E lv wx) {o : Obj} {E' : Nat} {w' w2 : World} {lv' : Value} (hrt : Dc B D T E (wx.alloc o).drew (ms (k + 1)) E' w')
    (ho : w2.ownsRow (w.heap.size + 3) 39 15 lv' (k + 1) (flatC cs k ++ (cs k).toList)) (hgr : (w'.alloc (.cells (cs k) 39)).grownBy w2 lv.ownBlock) (hob : lv'.ownBlock = lv.ownBlock ∨ lv'.ownBlock = some (w'.heap.size + 1)) :
    Sc w B D T ms cs (k + 1) E' lv' (w2.setCell ⟨w.heap.size, 0, none⟩ lv') := by
  have hb3 := h.b3
  have hbw := h.bw
  have hd3 := h.d3
  have ht3 := h.t3
  have he3 := h.e3
  have hsz := hrt.st.size
  have hdl : D < wx.heap.size := h.dc.dlt
  have htl : T < wx.heap.size := h.dc.tlt
  obtain ⟨es, hr, hes⟩ := hrt.ex
  have hrl := hr.lt
  have hbs := h.bel.size
  have hvl := lt_of_block h.hv
  have h1l := lt_of_block h.h1
  have h2l := lt_of_block h.h2
  change (wx.alloc o).heap.size ≤ w'.heap.size at hsz
  simp only [World.size_alloc] at hsz
  have hel : E < wx.heap.size := h.dc.st.inE
  have hE' : E' = E ∨ wx.heap.size + 1 ≤ E' := by
    rcases hrt.st.esc with e | e
    · exact .inl e
    · refine .inr ?_
      change (wx.alloc o).heap.size ≤ E' at e
      simpa using e
  -- blocks of wx that are not D, E stay up to w'
  have keep1 : ∀ g, g < wx.heap.size → g ≠ D → g ≠ E → w'.heap[g]? = wx.heap[g]? := fun g hg h1 h2 => by
    have := hrt.st.block g (by show g < (wx.alloc o).heap.size; simp; omega) h1 h2
    rw [this]
    exact Below.heap_alloc wx o g hg
  -- blocks of w' that are not the row's stay up to the end
  have keep2 : ∀ g, g < w'.heap.size → lv.ownBlock ≠ some g → g ≠ w.heap.size → (w2.setCell ⟨w.heap.size, 0, none⟩ lv').heap[g]? = w'.heap[g]? := fun g hg h1 h2 => by
    rw [heap_setCell_other _ _ g _ h2, hgr.block g (by simp; omega) (fun e => h1 e.symm)]
    exact Below.heap_alloc w' _ g hg
  have hlvlt := ownsRow_lt h.own
  have hne' : lv.ownBlock ≠ some E' := by
    intro e
    have := (hlvlt E' e).2
    rcases hE' with e2 | e2
    · rw [e2] at e; exact h.ne e
    · omega
  have hlow : ∀ g, g < w.heap.size + 3 → lv.ownBlock ≠ some g := fun g hg e => by
    have := (hlvlt g e).1; omega
  have hw2s : w'.heap.size + 1 ≤ w2.heap.size := by have := hgr.size; simpa using this
  have hsame : ∀ g, g < w.heap.size + 3 → g ≠ w.heap.size → (w2.setCell ⟨w.heap.size, 0, none⟩ lv').heap[g]? = wx.heap[g]? := fun g h1 h2 =>
    (keep2 g (by omega) (hlow g h1) h2).trans (keep1 g (by omega) (by omega) (by omega))
  have hv2 : w2.heap[w.heap.size]? = some (.cells #[lv] 25 (0, 0)) := by
    rw [hgr.block _ (by simp; omega) (fun e => hlow _ (by omega) e.symm), Below.heap_alloc w' _ _ (by omega), keep1 _ (by omega) (by omega) (by omega)]
    exact h.hv
  have hfin : (w2.setCell ⟨w.heap.size, 0, none⟩ lv').heap[w.heap.size]? = some (.cells #[lv'] 25 (0, 0)) := (heap_setCell_same w2 w.heap.size 0 _ _ lv' hv2).trans (by simp)
  have hrep : Rep (w2.setCell ⟨w.heap.size, 0, none⟩ lv') B D T E' false ((ms (k + 1)).d es) := by
    refine hr.five (keep2 2 (by omega) (hlow 2 (by omega)) (by omega)) (keep2 3 (by omega) (hlow 3 (by omega)) (by omega)) (keep2 D hrl.1 h.nd (by omega)) (keep2 T hrl.2.1 h.nt (by omega)) (keep2 E' hrl.2.2.1 hne' ?_)
    rcases hE' with e | e <;> omega
  refine ⟨Dc.start hrep hes hrt.ok, ?_, hfin, (hsame _ (by omega) (by omega)).trans h.h1, (hsame _ (by omega) (by omega)).trans h.h2, ?_, hd3, ht3, by rcases hE' with e | e <;> omega, ?_, ?_, ?_, hb3, hbw⟩
  · refine ⟨hgr.os.trans (hrt.st.os.trans h.bel.os), hgr.tape.trans (hrt.st.tape.trans h.bel.tape), hgr.output.trans (hrt.st.output.trans h.bel.output), by simp [World.setCell]; omega, fun g hg => (hsame g (by omega) (by omega)).trans (h.bel.block g hg)⟩
  · refine ownsRow_keep ho fun g hg => heap_setCell_other _ _ g _ ?_
    have := (ownsRow_lt ho g hg).1
    intro e
    have e2 : g = w.heap.size := e
    omega
  · rcases hob with e | e
    · rw [e]; exact h.nd
    · rw [e]; intro e2; simp at e2; omega
  · rcases hob with e | e
    · rw [e]; exact h.nt
    · rw [e]; intro e2; simp at e2; omega
  · rcases hob with e | e
    · rw [e]; exact hne'
    · rw [e]; intro e2; simp at e2; omega
end

/-- Calls in memory: a slice of n calls at block b. -/
def AsksAt (w : World) (b n : Nat) (asks : Nat → Int × Int × Int) : Prop := b < w.heap.size ∧ ∀ i, i < n → w.cell? ⟨b, i * 3, none⟩ = some (.int .i64 (asks i).1) ∧ w.cell? ⟨b, i * 3 + 1, none⟩ = some (.int .i64 (asks i).2.1) ∧ w.cell? ⟨b, i * 3 + 2, none⟩ = some (.int .i64 (asks i).2.2)

/-- Err of a decoder over bytes. -/
theorem err_code {w : World} {B D T E E0 : Nat} {w0 : World} {m : MSt} (h : Dc B D T E0 w0 m E w) : Calls Tryz.prog 14 #[.pointer (some ⟨D, 0, none⟩)] w fun e w' => e = .returned .nilIface ∧ w = w' := by
  obtain ⟨es, hr, _⟩ := h.ex
  obtain ⟨C, ec, q1, q2, q3, q4, c0, c1, c2, c3, c4, c5, c6, c7, c8, c9, fz, ho⟩ := hr.cells
  clear c0 c1 c2 c3 c4 c5 c6 c7 c8 fz ho q1 q2 q3 q4 hr h
  go_enter Tryz.func14, Tryz.ntmps14
  go_wp2
  go_ret
  exact ⟨rfl, rfl⟩

set_option maxHeartbeats 4000000 in
set_option maxRecDepth 100000 in
theorem script_gen {w : World} {B : Nat} (s : ByteArray) (hs : s.size ≤ 900) (hT : Tabs w) (hB3 : 3 < B) (hB : B ≤ w.heap.size) (hG : Glob B w) (asks : Nat → Int × Int × Int) (n : Nat) (hn : n ≤ 200) (p : Option Addr) (b c : Nat) (hp : 0 < n → p = some ⟨b, 0, none⟩) (hask : 0 < n → AsksAt w b n asks)
    (ms : Nat → MSt) (cs : Nat → Array Value) (h0 : ms 0 = mStart s.data.toList)
    (hstep : ∀ D T E (w1 : World) i, i < n → Glob B w1 → Dc B D T E w1 (ms i) E w1 → Calls Tryz.prog 13 #[.pointer (some ⟨D, 0, none⟩), .agg #[.int .i64 (asks i).1, .int .i64 (asks i).2.1, .int .i64 (asks i).2.2]] w1 fun e w' => e = .returned (.agg (cs i)) ∧ ∃ E', Dc B D T E w1 (ms (i + 1)) E' w')
    (hcs : ∀ i, i < n → (cs i).size = 15 ∧ ∀ u ∈ (cs i).toList, u.oneCell' = true) :
    Calls Tryz.prog 5 #[.string s, .slice none 0 0, .bool false, .slice p n c] w fun e w' => ∃ lv, e = .returned (.tuple #[lv, .bool false, .bool true]) ∧ w'.ownsRow (w.heap.size + 3) 39 15 lv n (flatC cs n) ∧ Below w.heap.size w w' := by
  have hmf := makeFunc_any
  have hbel := (((Below.refl w.heap.size w).alloc (Nat.le_refl _) (.cells #[.slice none 0 0] 25)).alloc (by simp) (.cells #[.bool false] 4)).alloc (by simp; omega) (.cells #[.bool false] 4)
  have HST := hid (start_code (w := ((w.alloc (.cells #[.slice none 0 0] 25)).alloc (.cells #[.bool false] 4)).alloc (.cells #[.bool false] 4)) (B := B) s hs (hT.keep (hbel.block 2 (by omega)) (hbel.block 3 (by omega))) hB3 (by simp; omega))
  have HBEL := hid hbel
  have HASK := hid hask
  have HP := hid hp
  have HSTEP := hid hstep
  have HCS := hid hcs
  have HG := hid hG
  have H0 := hid h0
  clear hT hG hask hstep hcs h0 hbel hp
  go_enter_defers Tryz.func5, Tryz.ntmps5
  go_wp2_with fail
  refine HST.out.mono ?_
  rintro e w4 ⟨D, T, E, rfl, hrep, hb4, hd, ht, he⟩
  simp only [World.size_alloc] at hd ht he
  have hSc : Sc w B D T ms cs 0 E (.slice none 0 0) w4 := by
    have hk : ∀ g, g < w.heap.size + 3 → w4.heap[g]? = ((((w.alloc (.cells #[.slice none 0 0] 25)).alloc (.cells #[.bool false] 4)).alloc (.cells #[.bool false] 4))).heap[g]? := fun g hg => hb4.block g (by simp; omega)
    have hv : w4.heap[w.heap.size]? = some (.cells #[.slice none 0 0] 25 (0, 0)) := by
      rw [hk _ (by omega), Below.heap_alloc _ _ _ (by simp; omega), Below.heap_alloc _ _ _ (by simp)]
      exact heap_alloc_new _ _
    have hv1 : w4.heap[w.heap.size + 1]? = some (.cells #[.bool false] 4 (0, 0)) := by
      rw [hk _ (by omega), Below.heap_alloc _ _ _ (by simp)]
      exact heap_alloc2_new _ _ _
    have hv2 : w4.heap[w.heap.size + 2]? = some (.cells #[.bool false] 4 (0, 0)) := by
      rw [hk _ (by omega)]
      have := heap_alloc_new ((w.alloc (.cells #[.slice none 0 0] 25)).alloc (.cells #[.bool false] 4)) (.cells #[.bool false] 4)
      simpa using this
    have hok : (mStart s.data.toList).Ok := by
      refine ⟨by show (0 : Int) ≤ 1; omega, ?_⟩
      show (1 : Int) + ((s.data.toList.length - 0 : Nat) : Int) ≤ 5000
      have : s.data.toList.length = s.size := rfl
      omega
    have hdc : Dc B D T E w4 (ms 0) E w4 := by
      rw [H0.out]
      exact Dc.start hrep (by show 0 + 0 ≤ 0; omega) hok
    exact ⟨hdc, HBEL.out.trans (hb4.mono (by simp; omega)), hv, hv1, hv2, ⟨rfl, .inl ⟨rfl, rfl⟩⟩, by omega, by omega, by omega, by simp [Value.ownBlock], by simp [Value.ownBlock], by simp [Value.ownBlock], hB3, hB⟩
  have HSC := hid hSc
  clear hrep hb4 hd ht he hSc HST HBEL H0
  go_wp2_with fail
  go_loopw [21] (fun i wx => ∃ (k : Nat) (E1 : Nat) (lv : Value), k ≤ n ∧ i = .int .i64 k ∧ Hid (Sc w B D T ms cs k E1 lv wx)) (fun i _ => n - (intOf i).toNat)
  case atStart => exact ⟨0, E, _, Nat.zero_le _, rfl, HSC⟩
  case round =>
    obtain ⟨k, E1, lv, hk, rfl, hsc⟩ := hrel
    clear HSC
    by_cases hlt : k < n
    · have e1 : (k : Int) < (n : Int) := by omega
      obtain rfl := HP.out (by omega)
      obtain ⟨q0, q1, q2⟩ := (HASK.out (by omega)).2 k hlt
      have hbb := (HASK.out (by omega)).1
      have hbc := fun j => hsc.out.bel.cell (p := ⟨b, j, none⟩) hbb
      rw [← hbc] at q0 q1 q2
      have HLT := hid hlt
      clear hlt hbc
      go_wp2_with fail
      obtain ⟨al, hal⟩ : ∃ al : Obj, al = .cells #[.int .i64 (asks k).1, .int .i64 (asks k).2.1, .int .i64 (asks k).2.2] 23 := ⟨_, rfl⟩
      have hy : Below wr.heap.size wr (wr.alloc al).drew := ((Below.refl _ _).alloc (Nat.le_refl _) al).drew
      have hdy : Dc B D T E1 (wr.alloc al).drew (ms k) E1 (wr.alloc al).drew := by
        obtain ⟨es, hr, hes⟩ := hsc.out.dc.ex
        exact Dc.start (hr.below hy) hes hsc.out.dc.ok
      have hst := HSTEP.out D T E1 (wr.alloc al).drew k HLT.out ((HG.out.grow hsc.out.bel).grow hy) hdy
      have hcc := HCS.out k HLT.out
      have hvl := lt_of_block hsc.out.hv
      have hdl : D < wr.heap.size := hsc.out.dc.dlt
      have htl : T < wr.heap.size := hsc.out.dc.tlt
      have hel : E1 < wr.heap.size := hsc.out.dc.st.inE
      have hd3 := hsc.out.d3
      have ht3 := hsc.out.t3
      have he3 := hsc.out.e3
      have hlvl := ownsRow_lt hsc.out.own
      have hold : ∀ w' E', Dc B D T E1 (wr.alloc al).drew (ms (k + 1)) E' w' → ∀ g, g < wr.heap.size + 1 → g ≠ D → g ≠ E1 → w'.heap[g]? = (wr.alloc al).heap[g]? := fun w' E' hd g h1 h2 h3 =>
        (hd.old (g := g) (by show g < (wr.alloc al).heap.size; simp; omega) h2 h3).1
      have hallow : ∀ g, g < wr.heap.size → (wr.alloc al).heap[g]? = wr.heap[g]? := fun g hg => Below.heap_alloc wr al g hg
      have hxnew : (wr.alloc al).heap[wr.heap.size]? = some (.cells #[.int .i64 (asks k).1, .int .i64 (asks k).2.1, .int .i64 (asks k).2.2] 23 (0, 0)) := by rw [← hal]; exact heap_alloc_new _ _
      have hlow : ∀ g, g < w.heap.size + 3 ∨ wr.heap.size ≤ g → lv.ownBlock ≠ some g := fun g hg e => by
        have := hlvl g e
        omega
      rw [← hal]
      refine region5_6 (V := w.heap.size) (X := wr.heap.size) (D := D) (lv := lv) (n := k) (xs := flatC cs k) (B0 := w.heap.size + 3) (cs := cs k) (op := (asks k).1) (pr := (asks k).2.1) (df := (asks k).2.2) (RT := fun w' => ∃ E', Dc B D T E1 (wr.alloc al).drew (ms (k + 1)) E' w')
        (fun d v c a w hd h => panic5_put hd h) rfl rfl rfl rfl ((hallow _ hvl).trans hsc.out.hv) hxnew hst
        (fun w' ⟨E', hd⟩ => ((hold w' E' hd _ (by omega) (by omega) (by omega)).trans (hallow _ hvl)).trans hsc.out.hv)
        (fun w' ⟨E', hd⟩ => (hold w' E' hd _ (by omega) (by omega) (by omega)).trans hxnew)
        (fun w' ⟨E', hd⟩ => ⟨ownsRow_keep hsc.out.own fun g hg => (hold w' E' hd g (by have := hlvl g hg; omega) (fun e => hsc.out.nd (e ▸ hg)) (fun e => hsc.out.ne (e ▸ hg))).trans (hallow g (hlvl g hg).2), by have := hd.st.size; change (wr.alloc al).heap.size ≤ _ at this; simp at this; omega⟩)
        hcc.1 hcc.2 (by omega) (hlow _ (.inl (by omega))) (hlow _ (.inr (Nat.le_refl _))) ?_
      rintro w' lv' w2 ⟨E', hd'⟩ ho hgr hob
      have HSC2 := hid (hsc.out.next hd' ho hgr hob)
      clear hst hy hdy hold hallow hxnew hlow hcc hd' ho hgr hob hlvl hsc hal q0 q1 q2
      simp only [putAll, Act.put, List.setIfInBounds_toArray, List.set_cons_zero, List.set_cons_succ]
      generalize w2.setCell ⟨w.heap.size, 0, none⟩ lv' = w5 at HSC2 ⊢
      go_wp2_with fail
      go_roundw
      case measure => simp [intOf]; have := HLT.out; omega
      case rel => exact ⟨k + 1, E', lv', by have := HLT.out; omega, by go_num, HSC2⟩
    · obtain rfl : k = n := by omega
      have e1 : ¬ (k : Int) < (k : Int) := by omega
      go_wp2_with fail
      have hdd : Dc B D T E1 wr.drew (ms k) E1 wr.drew := by
        obtain ⟨es, hr, hes⟩ := hsc.out.dc.ex
        exact Dc.start hr.drew hes hsc.out.dc.ok
      have hown := hsc.out.own
      have hbel := hsc.out.bel
      have hlow : ∀ g, g < w.heap.size + 3 → lv.ownBlock ≠ some g := fun g hg e => by
        have := (ownsRow_lt hsc.out.own g e).1
        omega
      have hv0 := hsc.out.hv
      have hv1 := hsc.out.h1
      have hv2 := hsc.out.h2
      refine region5_8 (V := w.heap.size) (V1 := w.heap.size + 1) (V2 := w.heap.size + 2) (D := D) (lv := lv) (fun d v c a w hd h => panic5_put hd h) rfl rfl rfl rfl rfl hv0 hv1 hv2 (by omega) (by omega) (by omega) (ownsRow_slice hown) (err_code hdd) ?_
      have g0 : (((wr.drew.setCell ⟨w.heap.size, 0, none⟩ lv).setCell ⟨w.heap.size + 1, 0, none⟩ (.bool false)).setCell ⟨w.heap.size + 2, 0, none⟩ (.bool true)).heap[w.heap.size]? = some (.cells #[lv] 25 (0, 0)) := by
        rw [heap_setCell_other _ _ _ _ (by show w.heap.size ≠ w.heap.size + 2; omega), heap_setCell_other _ _ _ _ (by show w.heap.size ≠ w.heap.size + 1; omega)]
        exact (heap_setCell_same wr.drew w.heap.size 0 _ _ lv hv0).trans (by simp)
      have g1 : (((wr.drew.setCell ⟨w.heap.size, 0, none⟩ lv).setCell ⟨w.heap.size + 1, 0, none⟩ (.bool false)).setCell ⟨w.heap.size + 2, 0, none⟩ (.bool true)).heap[w.heap.size + 1]? = some (.cells #[.bool false] 4 (0, 0)) := by
        rw [heap_setCell_other _ _ _ _ (by show w.heap.size + 1 ≠ w.heap.size + 2; omega)]
        exact (heap_setCell_same _ (w.heap.size + 1) 0 _ _ (.bool false) ((heap_setCell_other wr.drew _ (w.heap.size + 1) _ (by show w.heap.size + 1 ≠ w.heap.size; omega)).trans hv1)).trans (by simp)
      have g2 : (((wr.drew.setCell ⟨w.heap.size, 0, none⟩ lv).setCell ⟨w.heap.size + 1, 0, none⟩ (.bool false)).setCell ⟨w.heap.size + 2, 0, none⟩ (.bool true)).heap[w.heap.size + 2]? = some (.cells #[.bool true] 4 (0, 0)) :=
        (heap_setCell_same _ (w.heap.size + 2) 0 _ _ (.bool true) (((heap_setCell_other _ _ (w.heap.size + 2) _ (by show w.heap.size + 2 ≠ w.heap.size + 1; omega)).trans (heap_setCell_other wr.drew _ (w.heap.size + 2) _ (by show w.heap.size + 2 ≠ w.heap.size; omega))).trans hv2)).trans (by simp)
      have gb : Below w.heap.size w (((wr.drew.setCell ⟨w.heap.size, 0, none⟩ lv).setCell ⟨w.heap.size + 1, 0, none⟩ (.bool false)).setCell ⟨w.heap.size + 2, 0, none⟩ (.bool true)) :=
        ((hbel.drew.setCell (by simp) _).setCell (by simp) _).setCell (by simp) _
      have go : (((wr.drew.setCell ⟨w.heap.size, 0, none⟩ lv).setCell ⟨w.heap.size + 1, 0, none⟩ (.bool false)).setCell ⟨w.heap.size + 2, 0, none⟩ (.bool true)).ownsRow (w.heap.size + 3) 39 15 lv k (flatC cs k) := by
        refine ownsRow_keep hown fun g hg => ?_
        have hg3 : w.heap.size + 3 ≤ g := (ownsRow_lt hown g hg).1
        rw [heap_setCell_other _ _ g _ (by show g ≠ w.heap.size + 2; omega), heap_setCell_other _ _ g _ (by show g ≠ w.heap.size + 1; omega), heap_setCell_other _ _ g _ (by show g ≠ w.heap.size; omega)]
        rfl
      generalize ((wr.drew.setCell ⟨w.heap.size, 0, none⟩ lv).setCell ⟨w.heap.size + 1, 0, none⟩ (.bool false)).setCell ⟨w.heap.size + 2, 0, none⟩ (.bool true) = w6 at g0 g1 g2 gb go ⊢
      have GB := hid gb
      have GO := hid go
      have c0 : w6.cell? ⟨w.heap.size, 0, none⟩ = some lv := cell_of_row w6 _ 0 _ _ _ g0
      have c1 : w6.cell? ⟨w.heap.size + 1, 0, none⟩ = some (.bool false) := cell_of_row w6 _ 0 _ _ _ g1
      have c2 : w6.cell? ⟨w.heap.size + 2, 0, none⟩ = some (.bool true) := cell_of_row w6 _ 0 _ _ _ g2
      have hslv := ownsRow_slice go
      clear g0 g1 g2 gb go hdd hown hbel hlow hv0 hv1 hv2 hsc HSTEP HCS HASK HG
      obtain ⟨p, nn, cc, rfl⟩ := hslv
      simp only [putAll, Act.put, List.setIfInBounds_toArray, List.set_cons_zero, List.set_cons_succ]
      go_wp2_with fail
      refine leaves_cons (f := 11) (args := #[.pointer (some ⟨w.heap.size, 0, none⟩), .pointer (some ⟨w.heap.size + 1, 0, none⟩), .pointer (some ⟨w.heap.size + 2, 0, none⟩)]) (by simp) (by simp [go_sem]) ?_
      refine (catch11 _ _ _ _).mono ?_
      rintro e u' w'' ⟨rfl, rfl, rfl⟩
      refine ⟨.tuple #[.slice p nn cc, .bool false, .bool true], ?_, .slice p nn cc, rfl, GO.out, GB.out⟩
      simp [results, Tryz.results5, go_sem, c0, c1, c2]

theorem script_code {w : World} {B : Nat} (s : ByteArray) (hs : s.size ≤ 900) (hT : Tabs w) (hB3 : 3 < B) (hB : B ≤ w.heap.size) (hG : Glob B w) (asks : Nat → Int × Int × Int) (n : Nat) (hn : n ≤ 200) (b c : Nat) (hask : AsksAt w b n asks)
    (ms : Nat → MSt) (cs : Nat → Array Value) (h0 : ms 0 = mStart s.data.toList)
    (hstep : ∀ D T E (w1 : World) i, i < n → Glob B w1 → Dc B D T E w1 (ms i) E w1 → Calls Tryz.prog 13 #[.pointer (some ⟨D, 0, none⟩), .agg #[.int .i64 (asks i).1, .int .i64 (asks i).2.1, .int .i64 (asks i).2.2]] w1 fun e w' => e = .returned (.agg (cs i)) ∧ ∃ E', Dc B D T E w1 (ms (i + 1)) E' w')
    (hcs : ∀ i, i < n → (cs i).size = 15 ∧ ∀ u ∈ (cs i).toList, u.oneCell' = true) :
    Calls Tryz.prog 5 #[.string s, .slice none 0 0, .bool false, .slice (some ⟨b, 0, none⟩) n c] w fun e w' => ∃ lv, e = .returned (.tuple #[lv, .bool false, .bool true]) ∧ w'.ownsRow (w.heap.size + 3) 39 15 lv n (flatC cs n) ∧ Below w.heap.size w w' :=
  script_gen s hs hT hB3 hB hG asks n hn _ b c (fun _ => rfl) (fun _ => hask) ms cs h0 hstep hcs
end Go.Proofs.YtejlokdcocacaaaGreatDoor
