/- DecodeScript's round: an answer appended. -/
import Derived.Test.YtejlokdcocacaaaGreatDoorTld
import Derived.Great.BuildSlice
import Derived.Great.FillDense
namespace Go.Proofs.YtejlokdcocacaaaGreatDoor
open Go.RowKit Go.Proofs.YtejlokdcocacaaaGreatDoorW.PrintLast

theorem info39z : (Tryz.prog.info? 39).map (fun i => (i.zero, i.size, i.bytes)) = some (some (.agg (toldC false ⟨#[]⟩ ⟨#[]⟩ 0 0 false 0 0 false)), 15, 144) := by kernel_rfl
theorem info23 : (Tryz.prog.info? 23).map (·.size) = some 3 := by kernel_rfl

theorem run_app39 (w : World) (ty : TypeId) {B n : Nat} {v : Value} {xs : List Value} (hown : w.ownsRow B 39 15 v n xs) (g : Nat) (cs : Array Value) (hg : w.heap[g]? = some (.cells cs 39 (0, 0))) (hc : cs.size = 15) (h1 : ∀ u ∈ cs.toList, u.oneCell' = true) (hn : n ≤ 10000) (hB : B ≤ w.heap.size) :
    ∃ v' w', (Builtin.append_ #[25, 25] ty #[v, .slice (some ⟨g, 0, none⟩) 1 1]).run Tryz.prog w = .ok v' w' ∧ w'.ownsRow B 39 15 v' (n + 1) (xs ++ cs.toList) ∧ w.grownBy w' v.ownBlock ∧ (v'.ownBlock = v.ownBlock ∨ v'.ownBlock = some w.heap.size) := by
  obtain ⟨i0, hi, hz0, hz1, hz2⟩ := info_parts info39z
  obtain ⟨v', w', hr, h2, h3, _, h5⟩ := run_append_own_at (P := Tryz.prog) w B 25 ty 39 i0 _ 15 144 Tryz.underlying25 hi hz0 hz1 hz2 rfl (by decide) v n xs hown ⟨g, 0, none⟩ 1 1 cs.toList (by simp; omega) (fun j u hj => by
    rw [Addr.add_lit, cell_of_row w g _ _ _ _ hg]; simpa using hj) h1 (by unfold maxLen; omega) (by omega) hB
  exact ⟨v', w', hr, h2, h3, h5⟩

theorem run_one39 (w : World) (cs : Array Value) (hc : cs.size = 15) : (Instr.buildSlice 25 1 #[(0, .agg cs)]).run Tryz.prog w = .ok (.slice (some ⟨w.heap.size, 0, none⟩) 1 1) (w.alloc (.cells cs 39)) := by
  obtain ⟨i0, hi, hz0, hz1, hz2⟩ := info_parts info39z
  refine run_buildSlice (P := Tryz.prog) w 25 39 1 _ cs i0 _ Tryz.underlying25 hi hz0 (by rw [hz1]; decide) (by rw [hz1]; decide) ?_
  rw [hz1]
  have h := Great.fill_whole (s := 15) (by decide) [.agg cs] ((Array.range (1 * 15)).map ((Value.agg (toldC false ⟨#[]⟩ ⟨#[]⟩ 0 0 false 0 0 false)).cells[· % (Value.agg (toldC false ⟨#[]⟩ ⟨#[]⟩ 0 0 false 0 0 false)).cells.size]!)) (by simpa [Value.cells] using hc) (by simp)
  simpa [Value.cells] using h

section
variable {o : Oper} {v : Value} {ρ : Operand → Value} {w : World}
theorem x_load25 {x : Operand} {V : Nat} (ho : o.op = .load 25 x) (hx : ρ x = .pointer (some ⟨V, 0, none⟩)) (hc : w.heap[V]? = some (.cells #[v] 25 (0, 0))) : (execOp ρ o).run Tryz.prog w = .ok (.value v) w := by
  have h := cell_of_row w V 0 _ _ _ hc
  simp only [List.getElem?_toArray, List.getElem?_cons_zero] at h
  cases o
  simp only at ho
  subst ho
  go_simp
theorem x_load23 {x : Operand} {X : Nat} {cs : Array Value} (ho : o.op = .load 23 x) (hx : ρ x = .pointer (some ⟨X, 0, none⟩)) (hc : w.heap[X]? = some (.cells cs 23 (0, 0))) (h3 : cs.size = 3) : (execOp ρ o).run Tryz.prog w = .ok (.value (.agg cs)) w := by
  have h := run_loadVar_row (P := Tryz.prog) w X 23 23 cs (0, 0) _ hc Tryz.underlying23 rfl (by rw [h3]; exact info23)
  unfold execOp
  simp only [ho, hx, Instr.loadAt, Instr.sureAddr, Sem.run_bind, Sem.run_pure, Result.andThen_ok, h]
theorem x_one39 {x : Operand} {cs : Array Value} (ho : o.op = .buildSlice 25 1 #[(0, x)]) (hx : ρ x = .agg cs) (hc : cs.size = 15) : (execOp ρ o).run Tryz.prog w = .ok (.value (.slice (some ⟨w.heap.size, 0, none⟩) 1 1)) (w.alloc (.cells cs 39)) := by
  have h := run_one39 w cs hc
  unfold execOp
  simp only [ho, Sem.run_bind, List.map_toArray, List.map_cons, List.map_nil, hx, h, Result.andThen_ok]
  rfl
theorem x_app39 {x y : Operand} {a b v' : Value} {w' : World} (ho : o.op = .call { callee := .builtin .append, args := #[x, y], argTypes := #[25, 25] }) (hx : ρ x = a) (hy : ρ y = b) (hr : (Builtin.append_ #[25, 25] o.type #[a, b]).run Tryz.prog w = .ok v' w') : (execOp ρ o).run Tryz.prog w = .ok (.value v') w' := by
  unfold execOp
  simp only [ho, resolve, invoke, builtin, Sem.run_bind, Sem.run_pure, Result.andThen_ok, List.map_toArray, List.map_cons, List.map_nil, hx, hy, hr]
theorem x_store25 {x y : Operand} {V : Nat} {a old : Value} (ho : o.op = .store 25 x y) (hx : ρ x = .pointer (some ⟨V, 0, none⟩)) (hy : ρ y = a) (hsl : ∃ p n c, a = .slice p n c) (hc : w.heap[V]? = some (.cells #[old] 25 (0, 0))) : (execOp ρ o).run Tryz.prog w = .ok .skip (w.setCell ⟨V, 0, none⟩ a) := by
  have h := cell_of_row w V 0 _ _ _ hc
  simp only [List.getElem?_toArray, List.getElem?_cons_zero] at h
  have hf := frozen_of_row w V 0 _ _ hc
  obtain ⟨p, n, c, rfl⟩ := hsl
  cases o
  simp only at ho
  subst ho
  go_simp
end

theorem ownsRow_slice {w : World} {B n : Nat} {v : Value} {xs : List Value} (h : w.ownsRow B 39 15 v n xs) : ∃ p n c, v = .slice p n c := by
  rcases h.2 with ⟨rfl, _⟩ | ⟨g, cap, cur, rfl, _⟩
  · exact ⟨_, _, _, rfl⟩
  · exact ⟨_, _, _, rfl⟩

/-- What a function's end hangs on: its results alone. -/
theorem leaves_results {P : Program} {fn : Func} {t t' : Array Value} {R : Ending → World → Prop} (h : results fn t = results fn t') : ∀ (ds : List Deferred) (u : FrameMode) (w : World), Leaves P fn t R ds u w → Leaves P fn t' R ds u w := by
  have key : ∀ (ds : List Deferred), Leaves P fn t R ds = Leaves P fn t' R ds := by
    intro ds
    induction ds with
    | nil =>
      funext u w
      cases u <;> simp [Leaves, h]
    | cons d ds ih =>
      funext u w
      simp only [Leaves, ih]
  intro ds u w hl
  rw [← key]
  exact hl

theorem results5_put (a : Act) (d : Nat) (v : Value) (hd : 11 ≤ d) : results Tryz.f5 (a.put (some d) v).tmps = results Tryz.f5 a.tmps := by
  have h8 : (a.put (some d) v).tmps[8]?.getD undef = a.tmps[8]?.getD undef := by simp [Act.put, show d ≠ 8 by omega]
  have h9 : (a.put (some d) v).tmps[9]?.getD undef = a.tmps[9]?.getD undef := by simp [Act.put, show d ≠ 9 by omega]
  have h10 : (a.put (some d) v).tmps[10]?.getD undef = a.tmps[10]?.getD undef := by simp [Act.put, show d ≠ 10 by omega]
  simp only [results, Tryz.results5]
  simp [h8, h9, h10]

theorem panic5_put {P : Program} {R : Ending → World → Prop} {c : List PanicEntry} {a : Act} {w : World} {d : Nat} {v : Value} (hd : 11 ≤ d) (h : bodyPostD P Tryz.f5 R (.panic c) (a.put (some d) v) w) : bodyPostD P Tryz.f5 R (.panic c) a w :=
  leaves_results (results5_put a d v hd) _ _ _ h

noncomputable def ops5_6 : Array Oper := (Tryz.f5.body.bind (findRegion 6)).getD #[]

set_option maxHeartbeats 4000000 in
set_option maxRecDepth 100000 in
theorem region5_6 {Q : Exit → Act → World → Prop} {a : Act} {w : World} {V X D : Nat} {lv : Value} {n : Nat} {xs : List Value} {B0 : Nat} {cs : Array Value} {op pr df : Int} {RT : World → Prop}
    (hQ : ∀ (d : Tmp) (v : Value) (c : List PanicEntry) (a : Act) (w : World), 11 ≤ d → Q (.panic c) (a.put (some d) v) w → Q (.panic c) a w) (hsz : a.tmps.size = 36)
    (h8 : a.eval (.tmp 8) = .pointer (some ⟨V, 0, none⟩)) (h11 : a.eval (.tmp 11) = .pointer (some ⟨D, 0, none⟩)) (h13 : a.eval (.tmp 13) = .pointer (some ⟨X, 0, none⟩))
    (hV : w.heap[V]? = some (.cells #[lv] 25 (0, 0))) (hX : w.heap[X]? = some (.cells #[.int .i64 op, .int .i64 pr, .int .i64 df] 23 (0, 0)))
    (hT : Calls Tryz.prog 13 #[.pointer (some ⟨D, 0, none⟩), .agg #[.int .i64 op, .int .i64 pr, .int .i64 df]] w.drew fun e w' => e = .returned (.agg cs) ∧ RT w')
    (hRV : ∀ w', RT w' → w'.heap[V]? = some (.cells #[lv] 25 (0, 0)))
    (hRX : ∀ w', RT w' → w'.heap[X]? = some (.cells #[.int .i64 op, .int .i64 pr, .int .i64 df] 23 (0, 0)))
    (hRO : ∀ w', RT w' → w'.ownsRow B0 39 15 lv n xs ∧ B0 ≤ w'.heap.size)
    (hc : cs.size = 15) (h1 : ∀ u ∈ cs.toList, u.oneCell' = true) (hn : n ≤ 10000) (hlV : lv.ownBlock ≠ some V) (hlX : lv.ownBlock ≠ some X)
    (hend : ∀ w' lv' w2, RT w' → w2.ownsRow B0 39 15 lv' (n + 1) (xs ++ cs.toList) → (w'.alloc (.cells cs 39)).grownBy w2 lv.ownBlock → (lv'.ownBlock = lv.ownBlock ∨ lv'.ownBlock = some (w'.heap.size + 1)) →
      Q .normal (putAll (putAll a [(25, lv), (26, .pointer (some ⟨D, 0, none⟩)), (27, .agg #[.int .i64 op, .int .i64 pr, .int .i64 df])]) [(28, .agg cs), (29, .slice (some ⟨w'.heap.size, 0, none⟩) 1 1), (30, lv')]) (w2.setCell ⟨V, 0, none⟩ lv')) :
    (Code.region 6 ops5_6 true).wp Tryz.prog Q a w := by
  generalize ho2 : ops5_6 = ops
  conv at ho2 => lhs; whnf
  subst ho2
  refine start_ (n := 7) (S := fun w9 : World => w9.heap[V]? = some (.cells #[lv] 25 (0, 0)) ∧ w9.heap[X]? = some (.cells #[.int .i64 op, .int .i64 pr, .int .i64 df] 23 (0, 0))) (ds := [6]) #[false, false, false, false, false, false, false] (by kernel_rfl) rfl rfl ⟨hV, hX⟩ (fun hHeld => ?_)
  refine take_ (i := 0) (N := some 25) (v := lv) #[true, false, false, false, false, false, false] rfl rfl (by kernel_rfl) (fun c a w => hQ 25 _ c a w (by decide)) (y_of rfl fun w9 hs9 => x_load25 rfl (by simp only [h8]) hs9.1) hHeld rfl ?_
  refine take_ (i := 1) (N := some 26) (v := .pointer (some ⟨D, 0, none⟩)) #[true, true, false, false, false, false, false] rfl rfl (by kernel_rfl) (fun c a w => hQ 26 _ c a w (by decide)) (y_of rfl fun w9 hs9 => x_move rfl (by simp (disch := first | decide | ((repeat rw [put_size]); rw [hsz]; decide)) only [put_ne, h11])) hHeld rfl ?_
  refine take_ (i := 2) (N := some 27) (v := .agg #[.int .i64 op, .int .i64 pr, .int .i64 df]) #[true, true, true, false, false, false, false] rfl rfl (by kernel_rfl) (fun c a w => hQ 27 _ c a w (by decide)) (y_of rfl fun w9 hs9 => x_load23 rfl (by simp (disch := first | decide | ((repeat rw [put_size]); rw [hsz]; decide)) only [put_ne, h13]) hs9.2 rfl) hHeld rfl ?_
  obtain ⟨A, hA⟩ : ∃ A, putAll a [(25, lv), (26, .pointer (some ⟨D, 0, none⟩)), (27, .agg #[.int .i64 op, .int .i64 pr, .int .i64 df])] = A := ⟨_, rfl⟩
  refine norm_ (a' := A) hA ?_
  have hAs : A.tmps.size = 36 := by rw [← hA]; simp only [putAll, put_size, hsz]
  have hA8 : A.eval (.tmp 8) = .pointer (some ⟨V, 0, none⟩) := by rw [← hA]; simp only [putAll]; simp (disch := first | decide | ((repeat rw [put_size]); rw [hsz]; decide)) only [put_ne, h8]
  have hA25 : A.eval (.tmp 25) = lv := by rw [← hA]; simp only [putAll]; simp (disch := first | decide | ((repeat rw [put_size]); rw [hsz]; decide)) only [put_ne, put_same]
  have hA26 : A.eval (.tmp 26) = .pointer (some ⟨D, 0, none⟩) := by rw [← hA]; simp only [putAll]; simp (disch := first | decide | ((repeat rw [put_size]); rw [hsz]; decide)) only [put_ne, put_same]
  have hA27 : A.eval (.tmp 27) = .agg #[.int .i64 op, .int .i64 pr, .int .i64 df] := by rw [← hA]; exact put_same _ _ _ (by (repeat rw [put_size]); rw [hsz]; decide)
  have HA := hid hA
  clear hA
  refine one_ (i := 3) (N := some 28) #[true, true, true, true, false, false, false] rfl rfl (by kernel_rfl) (by decide) ?_
  intro K hK
  refine goes_ Tryz.func13 rfl rfl #[.pointer (some ⟨D, 0, none⟩), .agg #[.int .i64 op, .int .i64 pr, .int .i64 df]] rfl rfl rfl (by simp only [List.map_toArray, List.map_cons, List.map_nil, hA26, hA27]) ?_
  refine hT.mono ?_
  rintro e w1 ⟨rfl, hrt⟩
  have hv1 := hRV _ hrt
  have hx1 := hRX _ hrt
  obtain ⟨hown, hB0⟩ := hRO _ hrt
  refine ⟨_, rfl, hK _ _ ⟨hv1, hx1⟩ (fun hHeld1 => ?_)⟩
  clear hK K
  obtain ⟨A2, hA2⟩ : ∃ A2, Act.put A (some 28) (.agg cs) = A2 := ⟨_, rfl⟩
  refine norm_ (a' := A2) hA2 ?_
  have hBs : A2.tmps.size = 36 := by rw [← hA2, put_size, hAs]
  have hB28 : A2.eval (.tmp 28) = .agg cs := by rw [← hA2]; exact put_same _ _ _ (by rw [hAs]; decide)
  have hB25 : A2.eval (.tmp 25) = lv := by rw [← hA2, put_ne _ _ _ _ (by decide)]; exact hA25
  have hB8 : A2.eval (.tmp 8) = .pointer (some ⟨V, 0, none⟩) := by rw [← hA2, put_ne _ _ _ _ (by decide)]; exact hA8
  refine one_ (i := 4) (N := some 29) #[true, true, true, true, true, false, false] rfl rfl (by kernel_rfl) (by decide) ?_
  intro K hK
  refine value_ rfl rfl (x_one39 (cs := cs) rfl hB28 hc) ?_
  have hv2 := (Below.heap_alloc w1 (.cells cs 39) V (lt_of_block hv1)).trans hv1
  have hx2 := (Below.heap_alloc w1 (.cells cs 39) X (lt_of_block hx1)).trans hx1
  refine hK _ _ ⟨hv2, hx2⟩ (fun hHeld2 => ?_)
  clear hK K
  obtain ⟨A3, hA3⟩ : ∃ A3, Act.put A2 (some 29) (.slice (some ⟨w1.heap.size, 0, none⟩) 1 1) = A3 := ⟨_, rfl⟩
  refine norm_ (a' := A3) hA3 ?_
  have hCs : A3.tmps.size = 36 := by rw [← hA3, put_size, hBs]
  have hC29 : A3.eval (.tmp 29) = .slice (some ⟨w1.heap.size, 0, none⟩) 1 1 := by rw [← hA3]; exact put_same _ _ _ (by rw [hBs]; decide)
  have hC25 : A3.eval (.tmp 25) = lv := by rw [← hA3, put_ne _ _ _ _ (by decide)]; exact hB25
  have hC8 : A3.eval (.tmp 8) = .pointer (some ⟨V, 0, none⟩) := by rw [← hA3, put_ne _ _ _ _ (by decide)]; exact hB8
  have hown2 : (w1.alloc (.cells cs 39)).ownsRow B0 39 15 lv n xs := by
    refine ⟨hown.1, ?_⟩
    rcases hown.2 with h | ⟨g, cap, cur, hv, hb, hg, r⟩
    · exact .inl h
    · exact .inr ⟨g, cap, cur, hv, hb, (Below.heap_alloc w1 _ g (lt_of_block hg)).trans hg, r⟩
  obtain ⟨lv', w2, hr, ho3, hgr, hob⟩ := run_app39 (w1.alloc (.cells cs 39)) 25 hown2 w1.heap.size cs (heap_alloc_new _ _) hc h1 hn (by simp; omega)
  simp only [World.size_alloc] at hob
  have hv3 := (hgr.block V (by simp; have := lt_of_block hv1; omega) (fun e => hlV e.symm)).trans hv2
  refine one_ (i := 5) (N := some 30) #[true, true, true, true, true, true, false] rfl rfl (by kernel_rfl) (by decide) ?_
  intro K hK
  refine value_ rfl rfl (x_app39 (a := lv) (b := .slice (some ⟨w1.heap.size, 0, none⟩) 1 1) rfl hC25 hC29 hr) ?_
  refine hK _ _ ⟨hv3, (hgr.block X (by simp; have := lt_of_block hx1; omega) (fun e => hlX e.symm)).trans hx2⟩ (fun hHeld3 => ?_)
  clear hK K
  obtain ⟨A4, hA4⟩ : ∃ A4, Act.put A3 (some 30) lv' = A4 := ⟨_, rfl⟩
  refine norm_ (a' := A4) hA4 ?_
  have hD30 : A4.eval (.tmp 30) = lv' := by rw [← hA4]; exact put_same _ _ _ (by rw [hCs]; decide)
  have hD8 : A4.eval (.tmp 8) = .pointer (some ⟨V, 0, none⟩) := by rw [← hA4, put_ne _ _ _ _ (by decide)]; exact hC8
  refine last_ (i := 6) (N := none) #[true, true, true, true, true, true, true] rfl rfl (by kernel_rfl) (by decide) ?_
  intro K hK
  refine skip_ (by rfl) rfl (x_store25 rfl hD8 hD30 (ownsRow_slice ho3) hv3) ?_
  refine hK _ _ ?_
  refine done_ (by kernel_rfl) ?_
  rw [← hA4, ← hA3, ← hA2, ← HA.out]
  exact hend _ _ _ hrt ho3 hgr hob

section
variable {o : Oper} {v : Value} {ρ : Operand → Value} {w : World}
theorem x_neq57 {x : Operand} (ho : o.op = .binOp .neq 57 x (.const .nilIface) 57) (hx : ρ x = .nilIface) (hy : ρ (.const .nilIface) = .nilIface) : (execOp ρ o).run Tryz.prog w = .ok (.value (.bool false)) w := by
  have hgd := guard_nil .neq 57 x .nilIface .nilIface
  have hv : (binOp .neq 57 .nilIface .nilIface).run Tryz.prog w = .ok (.bool false) w := by kernel_rfl
  cases o
  simp only at ho
  subst ho
  go_simp
theorem x_store4 {x y : Operand} {V : Nat} {a old : Bool} (ho : o.op = .store 4 x y) (hx : ρ x = .pointer (some ⟨V, 0, none⟩)) (hy : ρ y = .bool a) (hc : w.heap[V]? = some (.cells #[.bool old] 4 (0, 0))) : (execOp ρ o).run Tryz.prog w = .ok .skip (w.setCell ⟨V, 0, none⟩ (.bool a)) := by
  have h := cell_of_row w V 0 _ _ _ hc
  simp only [List.getElem?_toArray, List.getElem?_cons_zero] at h
  have hf := frozen_of_row w V 0 _ _ hc
  cases o
  simp only at ho
  subst ho
  go_simp
end

noncomputable def ops5_8 : Array Oper := (Tryz.f5.body.bind (findRegion 8)).getD #[]

set_option maxHeartbeats 4000000 in
set_option maxRecDepth 100000 in
theorem region5_8 {Q : Exit → Act → World → Prop} {a : Act} {w : World} {V V1 V2 D : Nat} {lv : Value} {b1 b2 : Bool}
    (hQ : ∀ (d : Tmp) (v : Value) (c : List PanicEntry) (a : Act) (w : World), 11 ≤ d → Q (.panic c) (a.put (some d) v) w → Q (.panic c) a w) (hsz : a.tmps.size = 36)
    (h8 : a.eval (.tmp 8) = .pointer (some ⟨V, 0, none⟩)) (h9 : a.eval (.tmp 9) = .pointer (some ⟨V1, 0, none⟩)) (h10 : a.eval (.tmp 10) = .pointer (some ⟨V2, 0, none⟩)) (h11 : a.eval (.tmp 11) = .pointer (some ⟨D, 0, none⟩))
    (hV : w.heap[V]? = some (.cells #[lv] 25 (0, 0))) (hV1 : w.heap[V1]? = some (.cells #[.bool b1] 4 (0, 0))) (hV2 : w.heap[V2]? = some (.cells #[.bool b2] 4 (0, 0))) (n01 : V1 ≠ V) (n02 : V2 ≠ V) (n12 : V2 ≠ V1)
    (hsl : ∃ p n c, lv = .slice p n c)
    (hT : Calls Tryz.prog 14 #[.pointer (some ⟨D, 0, none⟩)] w.drew fun e w' => e = .returned .nilIface ∧ w.drew = w')
    (hend : Q .normal (putAll a [(32, lv), (33, .pointer (some ⟨D, 0, none⟩)), (34, .nilIface), (35, .bool false)]) (((w.drew.setCell ⟨V, 0, none⟩ lv).setCell ⟨V1, 0, none⟩ (.bool false)).setCell ⟨V2, 0, none⟩ (.bool true))) :
    (Code.region 8 ops5_8 true).wp Tryz.prog Q a w := by
  generalize ho2 : ops5_8 = ops
  conv at ho2 => lhs; whnf
  subst ho2
  have hv1 : (w.drew.setCell ⟨V, 0, none⟩ lv).heap[V1]? = some (.cells #[.bool b1] 4 (0, 0)) := (heap_setCell_other _ _ V1 _ n01).trans hV1
  have hv2 : ((w.drew.setCell ⟨V, 0, none⟩ lv).setCell ⟨V1, 0, none⟩ (.bool false)).heap[V2]? = some (.cells #[.bool b2] 4 (0, 0)) := ((heap_setCell_other _ _ V2 _ n12).trans (heap_setCell_other _ _ V2 _ n02)).trans hV2
  refine start_ (n := 7) (S := fun w9 : World => w9.heap[V]? = some (.cells #[lv] 25 (0, 0))) (ds := [4, 5, 6]) #[false, false, false, false, false, false, false] (by kernel_rfl) rfl rfl hV (fun hHeld => ?_)
  refine take_ (i := 0) (N := some 32) (v := lv) #[true, false, false, false, false, false, false] rfl rfl (by kernel_rfl) (fun c a w => hQ 32 _ c a w (by decide)) (y_of rfl fun w9 hs9 => x_load25 rfl (by simp only [h8]) hs9) hHeld rfl ?_
  refine pure_ (i := 1) (N := some 33) (v := .pointer (some ⟨D, 0, none⟩)) #[true, true, false, false, false, false, false] rfl rfl (by kernel_rfl) (fun c a w => hQ 33 _ c a w (by decide)) (.inl ⟨by simp [Region.wanted], fun w9 => x_move rfl (by simp (disch := first | decide | ((repeat rw [put_size]); rw [hsz]; decide)) only [put_ne, h11])⟩) rfl ?_
  obtain ⟨A, hA⟩ : ∃ A, putAll a [(32, lv), (33, .pointer (some ⟨D, 0, none⟩))] = A := ⟨_, rfl⟩
  refine norm_ (a' := A) hA ?_
  have hAs : A.tmps.size = 36 := by rw [← hA]; simp only [putAll, put_size, hsz]
  have hA8 : A.eval (.tmp 8) = .pointer (some ⟨V, 0, none⟩) := by rw [← hA]; simp only [putAll]; simp (disch := first | decide | ((repeat rw [put_size]); rw [hsz]; decide)) only [put_ne, h8]
  have hA9 : A.eval (.tmp 9) = .pointer (some ⟨V1, 0, none⟩) := by rw [← hA]; simp only [putAll]; simp (disch := first | decide | ((repeat rw [put_size]); rw [hsz]; decide)) only [put_ne, h9]
  have hA10 : A.eval (.tmp 10) = .pointer (some ⟨V2, 0, none⟩) := by rw [← hA]; simp only [putAll]; simp (disch := first | decide | ((repeat rw [put_size]); rw [hsz]; decide)) only [put_ne, h10]
  have hA32 : A.eval (.tmp 32) = lv := by rw [← hA]; simp only [putAll]; simp (disch := first | decide | ((repeat rw [put_size]); rw [hsz]; decide)) only [put_ne, put_same]
  have hA33 : A.eval (.tmp 33) = .pointer (some ⟨D, 0, none⟩) := by rw [← hA]; exact put_same _ _ _ (by (repeat rw [put_size]); rw [hsz]; decide)
  have HA := hid hA
  clear hA
  refine one_ (i := 2) (N := some 34) #[true, true, true, false, false, false, false] rfl rfl (by kernel_rfl) (by decide) ?_
  intro K hK
  refine goes_ Tryz.func14 rfl rfl #[.pointer (some ⟨D, 0, none⟩)] rfl rfl rfl (by simp only [List.map_toArray, List.map_cons, List.map_nil, hA33]) ?_
  refine hT.mono ?_
  rintro e w1 ⟨rfl, rfl⟩
  refine ⟨_, rfl, hK _ _ hV (fun hHeld1 => ?_)⟩
  clear hK K
  refine pure_ (i := 3) (N := some 35) (v := .bool false) #[true, true, true, true, false, false, false] rfl rfl (by kernel_rfl) (fun c a w => hQ 35 _ c a w (by decide)) (.inl ⟨by simp [Region.wanted], fun w9 => x_neq57 rfl (by exact put_same _ _ _ (by rw [hAs]; decide)) rfl⟩) rfl ?_
  obtain ⟨A2, hA2⟩ : ∃ A2, Act.put (Act.put A (some 34) .nilIface) (some 35) (.bool false) = A2 := ⟨_, rfl⟩
  refine norm_ (a' := A2) hA2 ?_
  have hB35 : A2.eval (.tmp 35) = .bool false := by rw [← hA2]; exact put_same _ _ _ (by rw [put_size, hAs]; decide)
  have hB32 : A2.eval (.tmp 32) = lv := by rw [← hA2, put_ne _ _ _ _ (by decide), put_ne _ _ _ _ (by decide)]; exact hA32
  have hB8 : A2.eval (.tmp 8) = .pointer (some ⟨V, 0, none⟩) := by rw [← hA2, put_ne _ _ _ _ (by decide), put_ne _ _ _ _ (by decide)]; exact hA8
  have hB9 : A2.eval (.tmp 9) = .pointer (some ⟨V1, 0, none⟩) := by rw [← hA2, put_ne _ _ _ _ (by decide), put_ne _ _ _ _ (by decide)]; exact hA9
  have hB10 : A2.eval (.tmp 10) = .pointer (some ⟨V2, 0, none⟩) := by rw [← hA2, put_ne _ _ _ _ (by decide), put_ne _ _ _ _ (by decide)]; exact hA10
  refine last_ (i := 4) (N := none) #[true, true, true, true, true, false, false] rfl rfl (by kernel_rfl) (by decide) ?_
  intro K hK
  refine skip_ (by rfl) rfl (x_store25 rfl hB8 hB32 hsl hV) ?_
  refine hK _ _ ?_
  refine last_ (i := 5) (N := none) #[true, true, true, true, true, true, false] rfl rfl (by kernel_rfl) (by decide) ?_
  intro K hK
  refine skip_ (by rfl) rfl (x_store4 rfl hB9 hB35 hv1) ?_
  refine hK _ _ ?_
  refine last_ (i := 6) (N := none) #[true, true, true, true, true, true, true] rfl rfl (by kernel_rfl) (by decide) ?_
  intro K hK
  refine skip_ (by rfl) rfl (x_store4 rfl hB10 rfl hv2) ?_
  refine hK _ _ ?_
  refine done_ (by kernel_rfl) ?_
  rw [← hA2, ← HA.out]
  exact hend
end Go.Proofs.YtejlokdcocacaaaGreatDoor
