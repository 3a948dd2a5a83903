/- impl's told. -/
import Derived.Test.YtejlokdcocacaaaGreatDoorKDcx
import Derived.Laws.Tables
import Derived.Test.YtejlokdcocacaaaGreatDoorKErr
namespace Go.Proofs.YtejlokdcocacaaaGreatDoor
open Go.RowKit

theorem info39 : (Tryz.prog.info? 39).map (·.size) = some 15 := by kernel_rfl

/-- An answer's cells. -/
def toldC (sm : Bool) (a b : ByteArray) (k n : Int) (fi : Bool) (fl fc : Int) (fr : Bool) : Array Value := #[.bool sm, .string a, .string b, .int .i64 k, .int .i64 0, .string ⟨#[]⟩, .int .i64 0, .int .u64 0, .float .f64 0, .bool false, .int .i64 n, .bool fi, .int .i64 fl, .int .i64 fc, .bool fr]

theorem toldC_one (sm : Bool) (a b : ByteArray) (k n : Int) (fi : Bool) (fl fc : Int) (fr : Bool) : (toldC sm a b k n fi fl fc fr).all (·.oneCell') = true := by simp [toldC, Value.oneCell']

/-- The answer's variable, at first. -/
def z39 : Obj := .cells (toldC false ⟨#[]⟩ ⟨#[]⟩ 0 0 false 0 0 false) 39
def askO (op pr df : Int) : Obj := .cells #[.int .i64 op, .int .i64 pr, .int .i64 df] 23

theorem store39 {w : World} {g : Nat} {old cs : Array Value} (hg : w.heap[g]? = some (.cells old 39 (0, 0))) (ho : old.size = 15) (hc : cs.size = 15) (h1 : cs.all (·.oneCell') = true) :
    (storeVar 39 ⟨g, 0, none⟩ (.agg cs)).run Tryz.prog w = .ok () (w.setRow g cs) :=
  run_storeVar_row w g 39 39 old cs hg (by rw [hc]; exact info39) (by rw [hc]; exact ho) h1

theorem res39 {fn : Func} {p : Tmp} (h : fn.results = #[.cell p 39]) {tmps : Array Value} {w : World} {g : Nat} {cs : Array Value} (hp : tmps.getD p undef = .pointer (some ⟨g, 0, none⟩)) (hg : w.heap[g]? = some (.cells cs 39 (0, 0))) (hc : cs.size = 15) :
    (results fn tmps).run Tryz.prog w = .ok (.agg cs) w :=
  results_cell_row h tmps w g 39 cs (0, 0) _ hp hg Tryz.underlying39 rfl (by rw [hc]; exact info39)

section
variable {w : World} {B D T E E0 : Nat} {w0 : World} {m a : MSt}

set_option maxHeartbeats 1600000 in
set_option maxRecDepth 100000 in
theorem told_next (h : Dc B D T E0 w0 m E w) (pr df : Int) :
    Calls Tryz.prog 13 #[.pointer (some ⟨D, 0, none⟩), .agg #[.int .i64 0, .int .i64 pr, .int .i64 df]] w fun e w' => e = .returned (.agg (toldC ((mNx m).has 1) ⟨#[]⟩ ⟨#[]⟩ 0 0 false 0 0 false)) ∧ ∃ E', Dc B D T E0 w0 (mNx m) E' w' := by
  have h1 := (h.alloc (askO 0 pr df)).alloc z39
  have hz : ((w.alloc (askO 0 pr df)).alloc z39).heap[w.heap.size + 1]? = some z39 := heap_alloc2_new _ _ _
  have HOK := hid ((adv_mNx m).ok h.ok)
  have ht := h1.next
  obtain ⟨b, hb⟩ : ∃ b, (mNx m).has 1 = b := ⟨_, rfl⟩
  rw [hb] at ht ⊢
  have HT := hid ht
  have HH := hid h1
  have HZ := hid hz
  have hs0 := h.st.size
  have hdl := h.dlt
  have hE : E < w.heap.size := by obtain ⟨es, hr, _⟩ := h.ex; exact hr.lt.2.2.1
  unfold askO z39 toldC at HT
  clear h h1 hz hb ht
  go_enter Tryz.func13, Tryz.ntmps13
  go_wp2_with fail
  refine HT.out.mono ?_
  rintro e w1 hx1
  obtain ⟨E1, v, rfl, hR, hD1, hkeep, hsz⟩ := HH.out.call HOK.out hx1
  subst hR
  obtain ⟨hz1, hge⟩ := hkeep (w.heap.size + 1) (by simp) (by omega) (by omega)
  have HZ1 := hid (hz1.trans HZ.out)
  have HGE := hid hge
  have HD1 := hid hD1
  clear hkeep hx1 hD1 HT HH HZ hz1 hge
  go_wp2_with (refine wpList_store_row (o := ⟨none, .store 39 (.tmp 4) (.tmp 28), _, _, _, _⟩) rfl 39 _ _ rfl (w.heap.size + 1) (toldC b ⟨#[]⟩ ⟨#[]⟩ 0 0 false 0 0 false) rfl rfl 39 _ HZ1.out info39 rfl (toldC_one _ _ _ _ _ _ _ _ _) ?_)
  refine bodyPost_ret (res39 rfl rfl (setRow_heap _ _ _ _ _ _ HZ1.out) rfl) rfl ?_
  exact ⟨rfl, E1, HD1.out.setRow (by omega) HGE.out _⟩
end
end Go.Proofs.YtejlokdcocacaaaGreatDoor

/- told's regions that draw their order, each over an abstract frame. Printed by gen_told.py. -/
namespace Go.Proofs.YtejlokdcocacaaaGreatDoor
open Go.RowKit Go.Proofs.YtejlokdcocacaaaGreatDoorW.PrintLast

section
variable {o : Oper} {v : Value} {ρ : Operand → Value} {w : World}
theorem guard_nil (op : BinOp) (t : TypeId) (x : Operand) (k a : Value) : eqGuard op t x (.const k) a .nilIface = pure () := by
  unfold eqGuard
  cases op <;> cases a <;> simp
theorem guard_slice (op : BinOp) (t : TypeId) (x : Operand) (k a : Value) (p : Option Addr) (n c : Nat) : eqGuard op t x (.const k) a (.slice p n c) = pure () := by
  unfold eqGuard
  cases op <;> cases a <;> simp
theorem x_neq69 {x : Operand} {a : Value} {b : Bool} (ho : o.op = .binOp .neq 69 x (.const (.slice none 0 0)) 69) (hx : ρ x = a) (hy : ρ (.const (.slice none 0 0)) = .slice none 0 0) (hv : (binOp .neq 69 a (.slice none 0 0)).run Tryz.prog w = .ok (.bool b) w) : (execOp ρ o).run Tryz.prog w = .ok (.value (.bool b)) w := by
  have hgd := guard_slice .neq 69 x (.slice none 0 0) a none 0 0
  cases o
  simp only at ho
  subst ho
  go_simp
theorem x_eql57 {x : Operand} {a : Value} {b : Bool} (ho : o.op = .binOp .eql 57 x (.const .nilIface) 57) (hx : ρ x = a) (hy : ρ (.const .nilIface) = .nilIface) (hv : (binOp .eql 57 a .nilIface).run Tryz.prog w = .ok (.bool b) w) : (execOp ρ o).run Tryz.prog w = .ok (.value (.bool b)) w := by
  have hgd := guard_nil .eql 57 x .nilIface a
  cases o
  simp only at ho
  subst ho
  go_simp
theorem x_conv {x : Operand} {a : Value} {s : ByteArray} (ho : o.op = .convert 69 9 x) (hx : ρ x = a) (hv : (convert 69 9 a).run Tryz.prog w = .ok (.string s) w) : (execOp ρ o).run Tryz.prog w = .ok (.value (.string s)) w := by
  cases o
  simp only at ho
  subst ho
  go_simp
theorem x_kind {x : Operand} {k : Int} (ho : o.op = .convert 78 3 x) (hx : ρ x = .int .u8 k) (h0 : 0 ≤ k) (h1 : k ≤ 255) : (execOp ρ o).run Tryz.prog w = .ok (.value (.int .i64 k)) w := by
  have hw : IntKind.i64.wrap k = k := by rw [IntKind.wrap_i64]; omega
  cases o
  simp only at ho
  subst ho
  go_simp
theorem x_build {P : Program} {t : TypeId} {ps : Array (Nat × Operand)} {cs : Array Value} (ho : o.op = .build t ps) (hb : P.built t (ps.map fun (i, x) => (i, ρ x)).toList = some cs) : (execOp ρ o).run P w = .ok (.value (.agg cs)) w := by
  have h2 := run_build (P := P) w t _ cs hb
  unfold execOp
  simp only [ho, Sem.run_bind, h2, Result.andThen_ok]
  rfl
theorem x_store39 {G : Nat} {x y : Operand} {old cs : Array Value} (ho : o.op = .store 39 x y) (hx : ρ x = .pointer (some ⟨G, 0, none⟩)) (hy : ρ y = .agg cs) (hg : w.heap[G]? = some (.cells old 39 (0, 0))) (h0 : old.size = 15) (hc : cs.size = 15) (h1 : cs.all (·.oneCell') = true) : (execOp ρ o).run Tryz.prog w = .ok .skip (w.setRow G cs) := by
  have := store39 hg h0 hc h1
  unfold execOp
  simp only [ho, hx, hy, Instr.storeAt, Instr.sureAddr, Sem.run_bind, Sem.run_pure, Result.andThen_ok, this]
end

noncomputable def ops13_18 : Array Oper := (Tryz.f13.body.bind (findRegion 18)).getD #[]

set_option maxHeartbeats 4000000 in
set_option maxRecDepth 100000 in
theorem region13_18 {Q : Exit → Act → World → Prop} {a : Act} {w : World} {G : Nat} {old : Array Value} {v14 : Value} {b14 : Bool} {s14 : ByteArray} {k15 : Int} {v16 : Value} {s16 : ByteArray} {v17 : Value} {fi fr : Bool} {fl fc : Int}
    (hQ : ∀ (d : Tmp) (v : Value) (c : List PanicEntry) (a : Act) (w : World), Q (.panic c) (a.put (some d) v) w → Q (.panic c) a w) (hsz : a.tmps.size = 134)
    (h4 : a.eval (.tmp 4) = .pointer (some ⟨G, 0, none⟩)) (h14 : a.eval (.tmp 14) = v14) (hq14 : ∀ w, (binOp .neq 69 v14 (.slice none 0 0)).run Tryz.prog w = .ok (.bool b14) w) (hk15 : 0 ≤ k15 ∧ k15 ≤ 255) (h15 : a.eval (.tmp 15) = .int .u8 k15) (h16 : a.eval (.tmp 16) = v16) (h17 : a.eval (.tmp 17) = v17)
    (hS : ∀ w9, Below w.heap.size w w9 → (fun w9 : World => (convert 69 9 v14).run Tryz.prog w9 = .ok (.string s14) w9 ∧ (convert 69 9 v16).run Tryz.prog w9 = .ok (.string s16) w9) w9) (hF : Calls Tryz.prog 30 #[v17] w.drew fun e w' => e = .returned (.agg #[.bool fi, .int .i64 fl, .int .i64 fc, .bool fr]) ∧ Below w.heap.size w w')
    (hg : ∀ w9, Below w.heap.size w w9 → w9.heap[G]? = some (.cells old 39 (0, 0))) (ho : old.size = 15)
    (hend : ∀ w', Below w.heap.size w w' → Q .normal (putAll (putAll a [(90, v14), (91, .bool b14), (92, v14), (93, .string s14), (94, .int .u8 k15), (95, .int .i64 k15), (96, v16), (97, .string s16), (98, v17)]) [(99, .agg #[.bool fi, .int .i64 fl, .int .i64 fc, .bool fr]), (100, .agg (toldC (b14) (s14) (s16) (k15) (0) fi fl fc fr))]) (w'.setRow G (toldC (b14) (s14) (s16) (k15) (0) fi fl fc fr))) :
    (Code.region 18 ops13_18 true).wp Tryz.prog Q a w := by
  generalize ho2 : ops13_18 = ops
  conv at ho2 => lhs; whnf
  subst ho2
  refine start_ (n := 12) (S := fun w9 : World => (convert 69 9 v14).run Tryz.prog w9 = .ok (.string s14) w9 ∧ (convert 69 9 v16).run Tryz.prog w9 = .ok (.string s16) w9) (ds := [11]) #[false, false, false, false, false, false, false, false, false, false, false, false] (by kernel_rfl) rfl rfl (hS _ (Below.refl _ _).drew) (fun hHeld => ?_)
  refine take_ (i := 0) (N := some 90) (v := v14) #[true, false, false, false, false, false, false, false, false, false, false, false] rfl rfl (by kernel_rfl) (hQ 90 _) (y_of rfl fun w9 hs9 => x_move rfl (by simp (disch := first | decide | ((repeat rw [put_size]); rw [hsz]; decide)) only [h14])) hHeld rfl ?_
  refine take_ (i := 1) (N := some 91) (v := .bool b14) #[true, true, false, false, false, false, false, false, false, false, false, false] rfl rfl (by kernel_rfl) (hQ 91 _) (y_of rfl fun w9 hs9 => x_neq69 rfl (by simp (disch := first | decide | ((repeat rw [put_size]); rw [hsz]; decide)) only [put_same]) rfl (hq14 w9)) hHeld rfl ?_
  refine take_ (i := 2) (N := some 92) (v := v14) #[true, true, true, false, false, false, false, false, false, false, false, false] rfl rfl (by kernel_rfl) (hQ 92 _) (y_of rfl fun w9 hs9 => x_move rfl (by simp (disch := first | decide | ((repeat rw [put_size]); rw [hsz]; decide)) only [put_ne, h14])) hHeld rfl ?_
  refine take_ (i := 3) (N := some 93) (v := .string s14) #[true, true, true, true, false, false, false, false, false, false, false, false] rfl rfl (by kernel_rfl) (hQ 93 _) (y_of rfl fun w9 hs9 => x_conv rfl (by simp (disch := first | decide | ((repeat rw [put_size]); rw [hsz]; decide)) only [put_same]) hs9.1) hHeld rfl ?_
  refine take_ (i := 4) (N := some 94) (v := .int .u8 k15) #[true, true, true, true, true, false, false, false, false, false, false, false] rfl rfl (by kernel_rfl) (hQ 94 _) (y_of rfl fun w9 hs9 => x_move rfl (by simp (disch := first | decide | ((repeat rw [put_size]); rw [hsz]; decide)) only [put_ne, h15])) hHeld rfl ?_
  refine take_ (i := 5) (N := some 95) (v := .int .i64 k15) #[true, true, true, true, true, true, false, false, false, false, false, false] rfl rfl (by kernel_rfl) (hQ 95 _) (y_of rfl fun w9 hs9 => x_kind rfl (by simp (disch := first | decide | ((repeat rw [put_size]); rw [hsz]; decide)) only [put_same]) hk15.1 hk15.2) hHeld rfl ?_
  refine take_ (i := 6) (N := some 96) (v := v16) #[true, true, true, true, true, true, true, false, false, false, false, false] rfl rfl (by kernel_rfl) (hQ 96 _) (y_of rfl fun w9 hs9 => x_move rfl (by simp (disch := first | decide | ((repeat rw [put_size]); rw [hsz]; decide)) only [put_ne, h16])) hHeld rfl ?_
  refine take_ (i := 7) (N := some 97) (v := .string s16) #[true, true, true, true, true, true, true, true, false, false, false, false] rfl rfl (by kernel_rfl) (hQ 97 _) (y_of rfl fun w9 hs9 => x_conv rfl (by simp (disch := first | decide | ((repeat rw [put_size]); rw [hsz]; decide)) only [put_same]) hs9.2) hHeld rfl ?_
  refine take_ (i := 8) (N := some 98) (v := v17) #[true, true, true, true, true, true, true, true, true, false, false, false] rfl rfl (by kernel_rfl) (hQ 98 _) (y_of rfl fun w9 hs9 => x_move rfl (by simp (disch := first | decide | ((repeat rw [put_size]); rw [hsz]; decide)) only [put_ne, h17])) hHeld rfl ?_
  obtain ⟨A, hA⟩ : ∃ A, putAll a [(90, v14), (91, .bool b14), (92, v14), (93, .string s14), (94, .int .u8 k15), (95, .int .i64 k15), (96, v16), (97, .string s16), (98, v17)] = A := ⟨_, rfl⟩
  refine norm_ (a' := A) hA ?_
  have hAs : A.tmps.size = 134 := by rw [← hA]; simp only [putAll, put_size, hsz]
  have hAx : A.eval (.tmp 98) = v17 := by rw [← hA]; exact put_same _ _ _ (by (repeat rw [put_size]); rw [hsz]; decide)
  have hA4 : A.eval (.tmp 4) = .pointer (some ⟨G, 0, none⟩) := by rw [← hA]; simp only [putAll]; simp (disch := first | decide | ((repeat rw [put_size]); rw [hsz]; decide)) only [put_ne, h4]
  have hA91 : A.eval (.tmp 91) = .bool b14 := by rw [← hA]; simp only [putAll]; simp (disch := first | decide | ((repeat rw [put_size]); rw [hsz]; decide)) only [put_ne, put_same]
  have hA93 : A.eval (.tmp 93) = .string s14 := by rw [← hA]; simp only [putAll]; simp (disch := first | decide | ((repeat rw [put_size]); rw [hsz]; decide)) only [put_ne, put_same]
  have hA95 : A.eval (.tmp 95) = .int .i64 k15 := by rw [← hA]; simp only [putAll]; simp (disch := first | decide | ((repeat rw [put_size]); rw [hsz]; decide)) only [put_ne, put_same]
  have hA97 : A.eval (.tmp 97) = .string s16 := by rw [← hA]; simp only [putAll]; simp (disch := first | decide | ((repeat rw [put_size]); rw [hsz]; decide)) only [put_ne, put_same]
  have HA := hid hA
  clear hA
  refine one_ (i := 9) (N := some 99) #[true, true, true, true, true, true, true, true, true, true, false, false] rfl rfl (by kernel_rfl) (by decide) ?_
  intro K hK
  refine goes_ Tryz.func30 rfl rfl #[v17] rfl rfl rfl (by simp only [List.map_toArray, List.map_cons, List.map_nil, hAx]) ?_
  refine hF.mono ?_
  rintro e w1 ⟨rfl, hb⟩
  refine ⟨_, rfl, hK _ _ (hS _ hb) (fun hHeld1 => ?_)⟩
  clear hK K
  obtain ⟨A2, hA2⟩ : ∃ A2, Act.put A (some 99) (.agg #[.bool fi, .int .i64 fl, .int .i64 fc, .bool fr]) = A2 := ⟨_, rfl⟩
  refine norm_ (a' := A2) hA2 ?_
  have hBs : A2.tmps.size = 134 := by rw [← hA2, put_size, hAs]
  have hB99 : A2.eval (.tmp 99) = .agg #[.bool fi, .int .i64 fl, .int .i64 fc, .bool fr] := by rw [← hA2]; exact put_same _ _ _ (by rw [hAs]; decide)
  have hB4 : A2.eval (.tmp 4) = .pointer (some ⟨G, 0, none⟩) := by rw [← hA2, put_ne _ _ _ _ (by decide)]; exact hA4
  have hB91 : A2.eval (.tmp 91) = .bool b14 := by rw [← hA2, put_ne _ _ _ _ (by decide)]; exact hA91
  have hB93 : A2.eval (.tmp 93) = .string s14 := by rw [← hA2, put_ne _ _ _ _ (by decide)]; exact hA93
  have hB95 : A2.eval (.tmp 95) = .int .i64 k15 := by rw [← hA2, put_ne _ _ _ _ (by decide)]; exact hA95
  have hB97 : A2.eval (.tmp 97) = .string s16 := by rw [← hA2, put_ne _ _ _ _ (by decide)]; exact hA97
  refine take_ (i := 10) (N := some 100) (v := .agg (toldC (b14) (s14) (s16) (k15) (0) fi fl fc fr)) #[true, true, true, true, true, true, true, true, true, true, true, false] rfl rfl (by kernel_rfl) (hQ 100 _) (y_of rfl fun w9 hs9 => x_build rfl ?hbb) hHeld1 rfl ?_
  case hbb =>
    simp only [List.map_toArray, List.map_cons, List.map_nil, hB91, hB93, hB95, hB97, hB99]
    kernel_rfl
  obtain ⟨A3, hA3⟩ : ∃ A3, Act.put A2 (some 100) (.agg (toldC (b14) (s14) (s16) (k15) (0) fi fl fc fr)) = A3 := ⟨_, rfl⟩
  refine norm_ (a' := A3) hA3 ?_
  have hC1 : A3.eval (.tmp 4) = .pointer (some ⟨G, 0, none⟩) := by rw [← hA3, put_ne _ _ _ _ (by decide)]; exact hB4
  have hC2 : A3.eval (.tmp 100) = .agg (toldC (b14) (s14) (s16) (k15) (0) fi fl fc fr) := by rw [← hA3]; exact put_same _ _ _ (by rw [hBs]; decide)
  refine last_ (i := 11) (N := none) #[true, true, true, true, true, true, true, true, true, true, true, true] rfl rfl (by kernel_rfl) (by decide) ?_
  intro K hK
  refine skip_ (by rfl) rfl (x_store39 (cs := toldC (b14) (s14) (s16) (k15) (0) fi fl fc fr) rfl hC1 hC2 (hg _ hb) ho rfl (toldC_one _ _ _ _ _ _ _ _ _)) ?_
  refine hK _ _ ?_
  refine done_ (by kernel_rfl) ?_
  rw [← hA3, ← hA2, ← HA.out]
  exact hend _ hb

noncomputable def ops13_21 : Array Oper := (Tryz.f13.body.bind (findRegion 21)).getD #[]

set_option maxHeartbeats 4000000 in
set_option maxRecDepth 100000 in
theorem region13_21 {Q : Exit → Act → World → Prop} {a : Act} {w : World} {G : Nat} {old : Array Value} {v18 : Value} {b18 : Bool} {s18 : ByteArray} {v19 : Value} {fi fr : Bool} {fl fc : Int}
    (hQ : ∀ (d : Tmp) (v : Value) (c : List PanicEntry) (a : Act) (w : World), Q (.panic c) (a.put (some d) v) w → Q (.panic c) a w) (hsz : a.tmps.size = 134)
    (h4 : a.eval (.tmp 4) = .pointer (some ⟨G, 0, none⟩)) (h18 : a.eval (.tmp 18) = v18) (hq18 : ∀ w, (binOp .neq 69 v18 (.slice none 0 0)).run Tryz.prog w = .ok (.bool b18) w) (h19 : a.eval (.tmp 19) = v19)
    (hS : ∀ w9, Below w.heap.size w w9 → (fun w9 : World => (convert 69 9 v18).run Tryz.prog w9 = .ok (.string s18) w9) w9) (hF : Calls Tryz.prog 30 #[v19] w.drew fun e w' => e = .returned (.agg #[.bool fi, .int .i64 fl, .int .i64 fc, .bool fr]) ∧ Below w.heap.size w w')
    (hg : ∀ w9, Below w.heap.size w w9 → w9.heap[G]? = some (.cells old 39 (0, 0))) (ho : old.size = 15)
    (hend : ∀ w', Below w.heap.size w w' → Q .normal (putAll (putAll a [(108, v18), (109, .bool b18), (110, v18), (111, .string s18), (112, v19)]) [(113, .agg #[.bool fi, .int .i64 fl, .int .i64 fc, .bool fr]), (114, .agg (toldC (b18) (s18) (⟨#[]⟩) (0) (0) fi fl fc fr))]) (w'.setRow G (toldC (b18) (s18) (⟨#[]⟩) (0) (0) fi fl fc fr))) :
    (Code.region 21 ops13_21 true).wp Tryz.prog Q a w := by
  generalize ho2 : ops13_21 = ops
  conv at ho2 => lhs; whnf
  subst ho2
  refine start_ (n := 8) (S := fun w9 : World => (convert 69 9 v18).run Tryz.prog w9 = .ok (.string s18) w9) (ds := [7]) #[false, false, false, false, false, false, false, false] (by kernel_rfl) rfl rfl (hS _ (Below.refl _ _).drew) (fun hHeld => ?_)
  refine take_ (i := 0) (N := some 108) (v := v18) #[true, false, false, false, false, false, false, false] rfl rfl (by kernel_rfl) (hQ 108 _) (y_of rfl fun w9 hs9 => x_move rfl (by simp (disch := first | decide | ((repeat rw [put_size]); rw [hsz]; decide)) only [h18])) hHeld rfl ?_
  refine take_ (i := 1) (N := some 109) (v := .bool b18) #[true, true, false, false, false, false, false, false] rfl rfl (by kernel_rfl) (hQ 109 _) (y_of rfl fun w9 hs9 => x_neq69 rfl (by simp (disch := first | decide | ((repeat rw [put_size]); rw [hsz]; decide)) only [put_same]) rfl (hq18 w9)) hHeld rfl ?_
  refine take_ (i := 2) (N := some 110) (v := v18) #[true, true, true, false, false, false, false, false] rfl rfl (by kernel_rfl) (hQ 110 _) (y_of rfl fun w9 hs9 => x_move rfl (by simp (disch := first | decide | ((repeat rw [put_size]); rw [hsz]; decide)) only [put_ne, h18])) hHeld rfl ?_
  refine take_ (i := 3) (N := some 111) (v := .string s18) #[true, true, true, true, false, false, false, false] rfl rfl (by kernel_rfl) (hQ 111 _) (y_of rfl fun w9 hs9 => x_conv rfl (by simp (disch := first | decide | ((repeat rw [put_size]); rw [hsz]; decide)) only [put_same]) hs9) hHeld rfl ?_
  refine take_ (i := 4) (N := some 112) (v := v19) #[true, true, true, true, true, false, false, false] rfl rfl (by kernel_rfl) (hQ 112 _) (y_of rfl fun w9 hs9 => x_move rfl (by simp (disch := first | decide | ((repeat rw [put_size]); rw [hsz]; decide)) only [put_ne, h19])) hHeld rfl ?_
  obtain ⟨A, hA⟩ : ∃ A, putAll a [(108, v18), (109, .bool b18), (110, v18), (111, .string s18), (112, v19)] = A := ⟨_, rfl⟩
  refine norm_ (a' := A) hA ?_
  have hAs : A.tmps.size = 134 := by rw [← hA]; simp only [putAll, put_size, hsz]
  have hAx : A.eval (.tmp 112) = v19 := by rw [← hA]; exact put_same _ _ _ (by (repeat rw [put_size]); rw [hsz]; decide)
  have hA4 : A.eval (.tmp 4) = .pointer (some ⟨G, 0, none⟩) := by rw [← hA]; simp only [putAll]; simp (disch := first | decide | ((repeat rw [put_size]); rw [hsz]; decide)) only [put_ne, h4]
  have hA109 : A.eval (.tmp 109) = .bool b18 := by rw [← hA]; simp only [putAll]; simp (disch := first | decide | ((repeat rw [put_size]); rw [hsz]; decide)) only [put_ne, put_same]
  have hA111 : A.eval (.tmp 111) = .string s18 := by rw [← hA]; simp only [putAll]; simp (disch := first | decide | ((repeat rw [put_size]); rw [hsz]; decide)) only [put_ne, put_same]
  have HA := hid hA
  clear hA
  refine one_ (i := 5) (N := some 113) #[true, true, true, true, true, true, false, false] rfl rfl (by kernel_rfl) (by decide) ?_
  intro K hK
  refine goes_ Tryz.func30 rfl rfl #[v19] rfl rfl rfl (by simp only [List.map_toArray, List.map_cons, List.map_nil, hAx]) ?_
  refine hF.mono ?_
  rintro e w1 ⟨rfl, hb⟩
  refine ⟨_, rfl, hK _ _ (hS _ hb) (fun hHeld1 => ?_)⟩
  clear hK K
  obtain ⟨A2, hA2⟩ : ∃ A2, Act.put A (some 113) (.agg #[.bool fi, .int .i64 fl, .int .i64 fc, .bool fr]) = A2 := ⟨_, rfl⟩
  refine norm_ (a' := A2) hA2 ?_
  have hBs : A2.tmps.size = 134 := by rw [← hA2, put_size, hAs]
  have hB113 : A2.eval (.tmp 113) = .agg #[.bool fi, .int .i64 fl, .int .i64 fc, .bool fr] := by rw [← hA2]; exact put_same _ _ _ (by rw [hAs]; decide)
  have hB4 : A2.eval (.tmp 4) = .pointer (some ⟨G, 0, none⟩) := by rw [← hA2, put_ne _ _ _ _ (by decide)]; exact hA4
  have hB109 : A2.eval (.tmp 109) = .bool b18 := by rw [← hA2, put_ne _ _ _ _ (by decide)]; exact hA109
  have hB111 : A2.eval (.tmp 111) = .string s18 := by rw [← hA2, put_ne _ _ _ _ (by decide)]; exact hA111
  refine take_ (i := 6) (N := some 114) (v := .agg (toldC (b18) (s18) (⟨#[]⟩) (0) (0) fi fl fc fr)) #[true, true, true, true, true, true, true, false] rfl rfl (by kernel_rfl) (hQ 114 _) (y_of rfl fun w9 hs9 => x_build rfl ?hbb) hHeld1 rfl ?_
  case hbb =>
    simp only [List.map_toArray, List.map_cons, List.map_nil, hB109, hB111, hB113]
    kernel_rfl
  obtain ⟨A3, hA3⟩ : ∃ A3, Act.put A2 (some 114) (.agg (toldC (b18) (s18) (⟨#[]⟩) (0) (0) fi fl fc fr)) = A3 := ⟨_, rfl⟩
  refine norm_ (a' := A3) hA3 ?_
  have hC1 : A3.eval (.tmp 4) = .pointer (some ⟨G, 0, none⟩) := by rw [← hA3, put_ne _ _ _ _ (by decide)]; exact hB4
  have hC2 : A3.eval (.tmp 114) = .agg (toldC (b18) (s18) (⟨#[]⟩) (0) (0) fi fl fc fr) := by rw [← hA3]; exact put_same _ _ _ (by rw [hBs]; decide)
  refine last_ (i := 7) (N := none) #[true, true, true, true, true, true, true, true] rfl rfl (by kernel_rfl) (by decide) ?_
  intro K hK
  refine skip_ (by rfl) rfl (x_store39 (cs := toldC (b18) (s18) (⟨#[]⟩) (0) (0) fi fl fc fr) rfl hC1 hC2 (hg _ hb) ho rfl (toldC_one _ _ _ _ _ _ _ _ _)) ?_
  refine hK _ _ ?_
  refine done_ (by kernel_rfl) ?_
  rw [← hA3, ← hA2, ← HA.out]
  exact hend _ hb

noncomputable def ops13_24 : Array Oper := (Tryz.f13.body.bind (findRegion 24)).getD #[]

set_option maxHeartbeats 4000000 in
set_option maxRecDepth 100000 in
theorem region13_24 {Q : Exit → Act → World → Prop} {a : Act} {w : World} {G : Nat} {old : Array Value} {k20 : Int} {v21 : Value} {b21 : Bool} {fi fr : Bool} {fl fc : Int}
    (hQ : ∀ (d : Tmp) (v : Value) (c : List PanicEntry) (a : Act) (w : World), Q (.panic c) (a.put (some d) v) w → Q (.panic c) a w) (hsz : a.tmps.size = 134)
    (h4 : a.eval (.tmp 4) = .pointer (some ⟨G, 0, none⟩)) (h20 : a.eval (.tmp 20) = .int .i64 k20) (h21 : a.eval (.tmp 21) = v21) (hq21 : ∀ w, (binOp .eql 57 v21 .nilIface).run Tryz.prog w = .ok (.bool b21) w)
    (hF : Calls Tryz.prog 30 #[v21] w.drew fun e w' => e = .returned (.agg #[.bool fi, .int .i64 fl, .int .i64 fc, .bool fr]) ∧ Below w.heap.size w w')
    (hg : ∀ w9, Below w.heap.size w w9 → w9.heap[G]? = some (.cells old 39 (0, 0))) (ho : old.size = 15)
    (hend : ∀ w', Below w.heap.size w w' → Q .normal (putAll (putAll a [(127, v21), (128, .bool b21), (129, .int .i64 k20), (130, v21)]) [(131, .agg #[.bool fi, .int .i64 fl, .int .i64 fc, .bool fr]), (132, .agg (toldC (b21) (⟨#[]⟩) (⟨#[]⟩) (0) (k20) fi fl fc fr))]) (w'.setRow G (toldC (b21) (⟨#[]⟩) (⟨#[]⟩) (0) (k20) fi fl fc fr))) :
    (Code.region 24 ops13_24 true).wp Tryz.prog Q a w := by
  generalize ho2 : ops13_24 = ops
  conv at ho2 => lhs; whnf
  subst ho2
  refine start_ (n := 7) (S := fun w9 : World => True) (ds := [6]) #[false, false, false, false, false, false, false] (by kernel_rfl) rfl rfl (trivial) (fun hHeld => ?_)
  refine take_ (i := 0) (N := some 127) (v := v21) #[true, false, false, false, false, false, false] rfl rfl (by kernel_rfl) (hQ 127 _) (y_of rfl fun w9 hs9 => x_move rfl (by simp (disch := first | decide | ((repeat rw [put_size]); rw [hsz]; decide)) only [h21])) hHeld rfl ?_
  refine take_ (i := 1) (N := some 128) (v := .bool b21) #[true, true, false, false, false, false, false] rfl rfl (by kernel_rfl) (hQ 128 _) (y_of rfl fun w9 hs9 => x_eql57 rfl (by simp (disch := first | decide | ((repeat rw [put_size]); rw [hsz]; decide)) only [put_same]) rfl (hq21 w9)) hHeld rfl ?_
  refine take_ (i := 2) (N := some 129) (v := .int .i64 k20) #[true, true, true, false, false, false, false] rfl rfl (by kernel_rfl) (hQ 129 _) (y_of rfl fun w9 hs9 => x_move rfl (by simp (disch := first | decide | ((repeat rw [put_size]); rw [hsz]; decide)) only [put_ne, h20])) hHeld rfl ?_
  refine take_ (i := 3) (N := some 130) (v := v21) #[true, true, true, true, false, false, false] rfl rfl (by kernel_rfl) (hQ 130 _) (y_of rfl fun w9 hs9 => x_move rfl (by simp (disch := first | decide | ((repeat rw [put_size]); rw [hsz]; decide)) only [put_ne, h21])) hHeld rfl ?_
  obtain ⟨A, hA⟩ : ∃ A, putAll a [(127, v21), (128, .bool b21), (129, .int .i64 k20), (130, v21)] = A := ⟨_, rfl⟩
  refine norm_ (a' := A) hA ?_
  have hAs : A.tmps.size = 134 := by rw [← hA]; simp only [putAll, put_size, hsz]
  have hAx : A.eval (.tmp 130) = v21 := by rw [← hA]; exact put_same _ _ _ (by (repeat rw [put_size]); rw [hsz]; decide)
  have hA4 : A.eval (.tmp 4) = .pointer (some ⟨G, 0, none⟩) := by rw [← hA]; simp only [putAll]; simp (disch := first | decide | ((repeat rw [put_size]); rw [hsz]; decide)) only [put_ne, h4]
  have hA128 : A.eval (.tmp 128) = .bool b21 := by rw [← hA]; simp only [putAll]; simp (disch := first | decide | ((repeat rw [put_size]); rw [hsz]; decide)) only [put_ne, put_same]
  have hA129 : A.eval (.tmp 129) = .int .i64 k20 := by rw [← hA]; simp only [putAll]; simp (disch := first | decide | ((repeat rw [put_size]); rw [hsz]; decide)) only [put_ne, put_same]
  have HA := hid hA
  clear hA
  refine one_ (i := 4) (N := some 131) #[true, true, true, true, true, false, false] rfl rfl (by kernel_rfl) (by decide) ?_
  intro K hK
  refine goes_ Tryz.func30 rfl rfl #[v21] rfl rfl rfl (by simp only [List.map_toArray, List.map_cons, List.map_nil, hAx]) ?_
  refine hF.mono ?_
  rintro e w1 ⟨rfl, hb⟩
  refine ⟨_, rfl, hK _ _ (trivial) (fun hHeld1 => ?_)⟩
  clear hK K
  obtain ⟨A2, hA2⟩ : ∃ A2, Act.put A (some 131) (.agg #[.bool fi, .int .i64 fl, .int .i64 fc, .bool fr]) = A2 := ⟨_, rfl⟩
  refine norm_ (a' := A2) hA2 ?_
  have hBs : A2.tmps.size = 134 := by rw [← hA2, put_size, hAs]
  have hB131 : A2.eval (.tmp 131) = .agg #[.bool fi, .int .i64 fl, .int .i64 fc, .bool fr] := by rw [← hA2]; exact put_same _ _ _ (by rw [hAs]; decide)
  have hB4 : A2.eval (.tmp 4) = .pointer (some ⟨G, 0, none⟩) := by rw [← hA2, put_ne _ _ _ _ (by decide)]; exact hA4
  have hB128 : A2.eval (.tmp 128) = .bool b21 := by rw [← hA2, put_ne _ _ _ _ (by decide)]; exact hA128
  have hB129 : A2.eval (.tmp 129) = .int .i64 k20 := by rw [← hA2, put_ne _ _ _ _ (by decide)]; exact hA129
  refine take_ (i := 5) (N := some 132) (v := .agg (toldC (b21) (⟨#[]⟩) (⟨#[]⟩) (0) (k20) fi fl fc fr)) #[true, true, true, true, true, true, false] rfl rfl (by kernel_rfl) (hQ 132 _) (y_of rfl fun w9 hs9 => x_build rfl ?hbb) hHeld1 rfl ?_
  case hbb =>
    simp only [List.map_toArray, List.map_cons, List.map_nil, hB128, hB129, hB131]
    kernel_rfl
  obtain ⟨A3, hA3⟩ : ∃ A3, Act.put A2 (some 132) (.agg (toldC (b21) (⟨#[]⟩) (⟨#[]⟩) (0) (k20) fi fl fc fr)) = A3 := ⟨_, rfl⟩
  refine norm_ (a' := A3) hA3 ?_
  have hC1 : A3.eval (.tmp 4) = .pointer (some ⟨G, 0, none⟩) := by rw [← hA3, put_ne _ _ _ _ (by decide)]; exact hB4
  have hC2 : A3.eval (.tmp 132) = .agg (toldC (b21) (⟨#[]⟩) (⟨#[]⟩) (0) (k20) fi fl fc fr) := by rw [← hA3]; exact put_same _ _ _ (by rw [hBs]; decide)
  refine last_ (i := 6) (N := none) #[true, true, true, true, true, true, true] rfl rfl (by kernel_rfl) (by decide) ?_
  intro K hK
  refine skip_ (by rfl) rfl (x_store39 (cs := toldC (b21) (⟨#[]⟩) (⟨#[]⟩) (0) (k20) fi fl fc fr) rfl hC1 hC2 (hg _ hb) ho rfl (toldC_one _ _ _ _ _ _ _ _ _)) ?_
  refine hK _ _ ?_
  refine done_ (by kernel_rfl) ?_
  rw [← hA3, ← hA2, ← HA.out]
  exact hend _ hb
end Go.Proofs.YtejlokdcocacaaaGreatDoor

/- The decoder's course from one call to the next. -/
namespace Go.Proofs.YtejlokdcocacaaaGreatDoor
open Go.RowKit

section
variable {w w' : World} {B D T E E0 E' : Nat} {w0 : World} {m a : MSt}
theorem Dc.rebase (h : Dc B D T E0 w0 m E w) : Dc B D T E w m E w := by
  obtain ⟨es, hr, he⟩ := h.ex
  exact Dc.start hr he h.ok
theorem Dc.chain (h : Dc B D T E0 w0 m E w) (k : Dc B D T E w a E' w') : Dc B D T E0 w0 a E' w' := ⟨k.ex, h.st.trans k.st (Nat.le_refl _) h.de0, k.ok, h.dlt, h.tlt, h.b4, h.bd, h.de0, h.be0⟩
theorem Dc.old (k : Dc B D T E w a E' w') {g : Nat} (h1 : g < w.heap.size) (h2 : g ≠ D) (h3 : g ≠ E) : w'.heap[g]? = w.heap[g]? ∧ g ≠ E' :=
  ⟨k.st.block g h1 h2 h3, by rcases k.st.esc with e | e <;> omega⟩
end

theorem undrew {w w2 : World} {k : Nat} (h : Below (w.drewN k).heap.size (w.drewN k) w2) : Below w.heap.size w w2 := ⟨h.os, h.tape, h.output, h.size, h.block⟩
end Go.Proofs.YtejlokdcocacaaaGreatDoor
