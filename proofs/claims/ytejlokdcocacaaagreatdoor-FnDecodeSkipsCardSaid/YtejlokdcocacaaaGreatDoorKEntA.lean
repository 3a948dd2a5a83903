/- Rows of structs appended; the entry's own row. -/
import Derived.Test.YtejlokdcocacaaaGreatDoorKTlf
import Derived.Test.YtejlokdcocacaaaGreatDoorKScr
import Derived.Great.BuildSlice
import Derived.Great.FillDense
import Derived.Deep.MidRow
namespace Go.Proofs.YtejlokdcocacaaaGreatDoor
open Go.RowKit

def zE : Array Value := #[.string ⟨#[]⟩, .slice none 0 0, .slice none 0 0, .string ⟨#[]⟩, .bool false, .bool false, .int .i64 0, .int .i64 0, .bool false, .int .i64 0]
def zF : Array Value := #[.string ⟨#[]⟩, .int .i64 0, .string ⟨#[]⟩]
def zT : Array Value := #[.string ⟨#[]⟩, .string ⟨#[]⟩]
def zA : Array Value := #[.int .i64 0, .int .i64 0, .int .i64 0]

theorem info48z : (Tryz.prog.info? 48).map (fun i => (i.zero, i.size, i.bytes)) = some (some (.agg zE), 10, 128) := by kernel_rfl
theorem info50z : (Tryz.prog.info? 50).map (fun i => (i.zero, i.size, i.bytes)) = some (some (.agg zF), 3, 40) := by kernel_rfl
theorem info107z : (Tryz.prog.info? 107).map (fun i => (i.zero, i.size, i.bytes)) = some (some (.agg zT), 2, 32) := by kernel_rfl
theorem info23z : (Tryz.prog.info? 23).map (fun i => (i.zero, i.size, i.bytes)) = some (some (.agg zA), 3, 24) := by kernel_rfl
theorem info37s : (Tryz.prog.info? 37).map (·.size) = some 4 := by kernel_rfl
theorem info48s : (Tryz.prog.info? 48).map (·.size) = some 10 := by kernel_rfl

section
variable {sl e : TypeId} {s by' : Nat} {z : Value}

theorem run_appE (hu : Tryz.prog.underlying sl = some (.slice e)) (hi : (Tryz.prog.info? e).map (fun i => (i.zero, i.size, i.bytes)) = some (some z, s, by')) (hz : z.cells.size = s) (hs : 0 < s) (hby : by' ≤ 1000)
    (w : World) (ty : TypeId) {B n : Nat} {v : Value} {xs : List Value} (hown : w.ownsRow B e s v n xs) (g m c : Nat) (cs : Array Value) (hg : w.heap[g]? = some (.cells cs e (0, 0))) (hc : cs.size = m * s) (h1 : ∀ u ∈ cs.toList, u.oneCell' = true) (hn : n + m ≤ 10000) (hB : B ≤ w.heap.size) :
    ∃ v' w', (Builtin.append_ #[sl, sl] ty #[v, .slice (some ⟨g, 0, none⟩) m c]).run Tryz.prog w = .ok v' w' ∧ w'.ownsRow B e s v' (n + m) (xs ++ cs.toList) ∧ w.grownBy w' v.ownBlock ∧ (v'.ownBlock = v.ownBlock ∨ v'.ownBlock = some w.heap.size) := by
  obtain ⟨i0, hi, hz0, hz1, hz2⟩ := info_parts hi
  have hmul : (n + m) * by' ≤ 10000 * 1000 := Nat.mul_le_mul hn hby
  obtain ⟨v', w', hr, h2, h3, _, h5⟩ := run_append_own_at (P := Tryz.prog) w B sl ty e i0 _ s by' hu hi hz0 hz1 hz2 hz hs v n xs hown ⟨g, 0, none⟩ m c cs.toList (by simp; omega) (fun j u hj => by
    rw [Addr.add_lit, cell_of_row w g _ _ _ _ hg]; simpa using hj) h1 (by unfold maxLen; omega) (by omega) hB
  exact ⟨v', w', hr, h2, h3, h5⟩

theorem run_oneE (hu : Tryz.prog.underlying sl = some (.slice e)) (hi : (Tryz.prog.info? e).map (fun i => (i.zero, i.size, i.bytes)) = some (some (.agg z.cells), s, by')) (hs : 0 < s) (hs2 : s ≤ 1000)
    (w : World) (cs : Array Value) (hc : cs.size = s) : (Instr.buildSlice sl 1 #[(0, .agg cs)]).run Tryz.prog w = .ok (.slice (some ⟨w.heap.size, 0, none⟩) 1 1) (w.alloc (.cells cs e)) := by
  obtain ⟨i0, hi, hz0, hz1, hz2⟩ := info_parts hi
  refine run_buildSlice (P := Tryz.prog) w sl e 1 _ cs i0 _ hu hi hz0 (by rw [hz1]; omega) (by rw [hz1]; omega) ?_
  rw [hz1]
  have h := Great.fill_whole (s := s) hs [.agg cs] ((Array.range (1 * s)).map ((Value.agg z.cells).cells[· % (Value.agg z.cells).cells.size]!)) (by simpa [Value.cells] using hc) (by simp)
  simpa [Value.cells] using h
end

theorem rowE_slice {w : World} {B n s : Nat} {e : TypeId} {v : Value} {xs : List Value} (h : w.ownsRow B e s v n xs) : ∃ p c, v = .slice p n c := by
  rcases h.2 with ⟨rfl, rfl⟩ | ⟨g, cap, cur, rfl, _⟩
  · exact ⟨_, _, rfl⟩
  · exact ⟨_, _, rfl⟩
theorem rowE_lt {w : World} {B n s : Nat} {e : TypeId} {v : Value} {xs : List Value} (h : w.ownsRow B e s v n xs) : ∀ g, v.ownBlock = some g → B ≤ g ∧ g < w.heap.size := by
  intro g hg
  rcases h.2 with ⟨rfl, _⟩ | ⟨g', cap, cur, rfl, hb, hh, _⟩
  · simp [Value.ownBlock] at hg
  · simp [Value.ownBlock] at hg
    subst hg
    exact ⟨hb, lt_of_block hh⟩
theorem rowE_keep {w w' : World} {B n s : Nat} {e : TypeId} {v : Value} {xs : List Value} (h : w.ownsRow B e s v n xs) (hk : ∀ g, v.ownBlock = some g → w'.heap[g]? = w.heap[g]?) : w'.ownsRow B e s v n xs := by
  refine ⟨h.1, ?_⟩
  rcases h.2 with h | ⟨g, cap, cur, rfl, hb, hh, r⟩
  · exact .inl h
  · exact .inr ⟨g, cap, cur, rfl, hb, (hk g rfl).trans hh, r⟩
theorem rowE_nil (w : World) (B s : Nat) (e : TypeId) : w.ownsRow B e s (.slice none 0 0) 0 [] := ⟨by simp, .inl ⟨rfl, rfl⟩⟩

theorem x_appE {sl : TypeId} {o : Oper} {ρ : Operand → Value} {w w' : World} {x y : Operand} {a b v' : Value} (ho : o.op = .call { callee := .builtin .append, args := #[x, y], argTypes := #[sl, sl] }) (hx : ρ x = a) (hy : ρ y = b) (hr : (Builtin.append_ #[sl, sl] o.type #[a, b]).run Tryz.prog w = .ok v' w') : (execOp ρ o).run Tryz.prog w = .ok (.value v') w' := by
  unfold execOp
  simp only [ho, resolve, invoke, builtin, Sem.run_bind, Sem.run_pure, Result.andThen_ok, List.map_toArray, List.map_cons, List.map_nil, hx, hy, hr]
theorem wpList_val {P : Program} {ops : Array Oper} {rest : List Oper} {o : Oper} {a : Act} {w w' : World} {v : Value} {Q : Exit → Act → World → Prop} (hgd : o.guard = none) (h : (execOp a.eval o).run P w = .ok (.value v) w') (hk : wpList P ops Q rest (a.put o.dst v) w') : wpList P ops Q (o :: rest) a w :=
  wpList_plain hgd fun _ hK => by
    unfold Oper.wp
    rw [h]
    exact hK _ _ hk

/-- Where entry stands: the result's block V = w.heap.size, the entry's own block X, a growing row v. -/
structure En (w : World) (B D T E0 X : Nat) (m : MSt) (E : Nat) (cs : Array Value) (e : TypeId) (s : Nat) (v : Value) (n : Nat) (xs : List Value) (wx : World) : Prop where
  dc : Dc B D T E0 w m E wx
  hv : wx.heap[w.heap.size]? = some (.cells zE 48 (0, 0))
  hx : wx.heap[X]? = some (.cells cs 48 (0, 0))
  own : wx.ownsRow (w.heap.size + 1) e s v n xs
  vx : w.heap.size < X
  ve : w.heap.size ≠ E
  xe : X ≠ E
  nx : v.ownBlock ≠ some X
  ne : v.ownBlock ≠ some E

section
variable {w : World} {B D T E0 X : Nat} {m : MSt} {E : Nat} {cs : Array Value} {e : TypeId} {s : Nat} {v : Value} {n : Nat} {xs : List Value} {wx : World}

theorem En.below (h : En w B D T E0 X m E cs e s v n xs wx) {w' : World} (k : Below wx.heap.size wx w') : En w B D T E0 X m E cs e s v n xs w' :=
  ⟨h.dc.below k, (k.block _ (lt_of_block h.hv)).trans h.hv, (k.block _ (lt_of_block h.hx)).trans h.hx, rowE_keep h.own fun g hg => k.block g (rowE_lt h.own g hg).2, h.vx, h.ve, h.xe, h.nx, h.ne⟩

/-- A method of the decoder's. -/
theorem En.call (h : En w B D T E0 X m E cs e s v n xs wx) {m' : MSt} (hk : m'.Ok) {R : World → Value → Prop} {en : Ending} {w' : World} (k : DX B D T E false wx m' R en w') :
    ∃ E' u, en = .returned u ∧ R w' u ∧ En w B D T E0 X m' E' cs e s v n xs w' := by
  obtain ⟨E', u, rfl, hR, hd, hkeep, hsz⟩ := h.dc.call hk k
  have hdl := h.dc.dlt
  have hvl := lt_of_block h.hv
  have hxl := lt_of_block h.hx
  have hvx := h.vx
  have k1 := hkeep w.heap.size hvl (by omega) h.ve
  have k2 := hkeep X hxl (by omega) h.xe
  refine ⟨E', u, rfl, hR, ⟨hd, k1.1.trans h.hv, k2.1.trans h.hx, rowE_keep h.own fun g hg => ?_, hvx, k1.2, k2.2, h.nx, fun hg => ?_⟩⟩
  · have hl := rowE_lt h.own g hg
    exact (hkeep g hl.2 (by omega) (fun e => h.ne (e ▸ hg))).1
  · have hl := rowE_lt h.own E' hg
    by_cases hE : E' = E
    · exact h.ne (hE ▸ hg)
    · exact (hkeep E' hl.2 (by omega) hE).2 rfl

theorem En.set (h : En w B D T E0 X m E cs e s v n xs wx) (i : Nat) (u : Value) : En w B D T E0 X m E (cs.setIfInBounds i u) e s v n xs (wx.setCell ⟨X, i, none⟩ u) := by
  have hvx := h.vx
  refine ⟨h.dc.setNew (by show w.heap.size ≤ X; omega) h.xe u, (heap_setCell_other _ _ _ _ (by show w.heap.size ≠ X; omega)).trans h.hv, ?_, rowE_keep h.own fun g hg => heap_setCell_other _ _ g _ (fun e => h.nx (by have e2 : g = X := e; rw [← e2]; exact hg)), hvx, h.ve, h.xe, h.nx, h.ne⟩
  exact heap_setCell_same wx X i _ _ u h.hx

theorem En.row (h : En w B D T E0 X m E cs e s v n xs wx) (cs' : Array Value) : En w B D T E0 X m E cs' e s v n xs (wx.setRow X cs') := by
  have hvx := h.vx
  exact ⟨h.dc.setRow (by omega) h.xe cs', (setRow_other _ _ _ _ (by omega)).trans h.hv, setRow_heap _ _ _ _ _ _ h.hx, rowE_keep h.own fun g hg => setRow_other _ _ g _ (fun e => h.nx (by rw [← e]; exact hg)), hvx, h.ve, h.xe, h.nx, h.ne⟩

theorem En.mid (h : En w B D T E0 X m E cs e s v n xs wx) (i : Nat) (a b c d : Value) : En w B D T E0 X m E ((((cs.setIfInBounds i a).setIfInBounds (i + 1) b).setIfInBounds (i + 1 + 1) c).setIfInBounds (i + 1 + 1 + 1) d) e s v n xs (wx.setCells X i [a, b, c, d]) :=
  (((h.set i a).set (i + 1) b).set (i + 1 + 1) c).set (i + 1 + 1 + 1) d

theorem En.there (h : En w B D T E0 X m E cs e s v n xs wx) (i k : Nat) (hk : i + k ≤ cs.size) : wx.there X i k := fun j hj =>
  ⟨by rw [cell_of_row wx X (i + j) _ _ _ h.hx, Array.getElem?_eq_getElem (by omega)]; rfl, frozen_of_row wx X (i + j) _ _ h.hx⟩

/-- The row is grown. -/
theorem En.grow (h : En w B D T E0 X m E cs e s v n xs wx) {o : Obj} {w2 : World} {v' : Value} {n' : Nat} {xs' : List Value} (ho : w2.ownsRow (w.heap.size + 1) e s v' n' xs') (hg : (wx.alloc o).grownBy w2 v.ownBlock) (hob : v'.ownBlock = v.ownBlock ∨ v'.ownBlock = some (wx.heap.size + 1)) :
    En w B D T E0 X m E cs e s v' n' xs' w2 := by
  have hvl := lt_of_block h.hv
  have hxl := lt_of_block h.hx
  have hel : E < wx.heap.size := by obtain ⟨es, hr, _⟩ := h.dc.ex; exact hr.lt.2.2.1
  have hvx := h.vx
  have hsz := hg.size
  simp only [World.size_alloc] at hsz
  have hvv : v.ownBlock ≠ some w.heap.size := fun e => by have := (rowE_lt h.own _ e).1; omega
  have hlow : ∀ k, k < w.heap.size → v.ownBlock ≠ some k := fun k hk e => by have := (rowE_lt h.own _ e).1; omega
  have kk : ∀ k, k < wx.heap.size → v.ownBlock ≠ some k → w2.heap[k]? = wx.heap[k]? := fun k hk hne => by
    rw [hg.block k (by simp; omega) (fun e => hne e.symm)]
    exact Below.heap_alloc wx o k hk
  refine ⟨h.dc.keep hg.os hg.tape hg.output (by omega) (fun k hk hd => kk k hk ?_), (kk _ hvl hvv).trans h.hv, (kk _ hxl h.nx).trans h.hx, ho, hvx, h.ve, h.xe, ?_, ?_⟩
  · rcases hd with hd | hd
    · exact hlow k hd
    · rw [hd]; exact h.ne
  · rcases hob with e | e <;> rw [e]
    · exact h.nx
    · intro e2; simp at e2; omega
  · rcases hob with e | e <;> rw [e]
    · exact h.ne
    · intro e2; simp at e2; omega

/-- Another row begins. -/
theorem En.fresh (h : En w B D T E0 X m E cs e s v n xs wx) (e' : TypeId) (s' : Nat) : En w B D T E0 X m E cs e' s' (.slice none 0 0) 0 [] wx :=
  ⟨h.dc, h.hv, h.hx, rowE_nil _ _ _ _, h.vx, h.ve, h.xe, by simp [Value.ownBlock], by simp [Value.ownBlock]⟩
end
end Go.Proofs.YtejlokdcocacaaaGreatDoor
