/- The reference's Tag and Field where they are not due. -/
import Derived.Test.YtejlokdcocacaaaGreatDoorKSpecT
import Derived.Test.YtejlokdcocacaaaGreatDoorKSpecM
import Derived.Test.YtejlokdcocacaaaGreatDoorKEnt
namespace Go.Proofs.YtejlokdcocacaaaGreatDoor
open Go.RowKit Go.Proofs.YtejlokdcocacaaaGreatDoorW.PrintLast

set_option maxHeartbeats 8000000 in
set_option maxRecDepth 100000 in
theorem tag_off {w : World} {R : Nat} {s : ByteArray} {i p fr : Nat} {m : MSt} (h : IsRd w R s i p fr) (hp : 1 < p) (hfr : fr ≤ i) (hm : Sp s i p m) :
    Calls Tryz.prog 47 #[.pointer (some ⟨R, 0, none⟩)] w (TagP R s w (mTag m).1 (mTag m).2.bad (mTag m).2.got fr) := by
  have hSg := Sg.begin h 107 #[.string ⟨#[]⟩, .string ⟨#[]⟩]
  obtain ⟨w1, hw1⟩ : ∃ w1, (w.alloc (.cells #[.string ⟨#[]⟩, .string ⟨#[]⟩] 107)).alloc z37 = w1 := ⟨_, rfl⟩
  obtain ⟨G, hG⟩ : ∃ G, w.heap.size = G := ⟨_, rfl⟩
  obtain ⟨V, hV⟩ : ∃ V, G + 1 = V := ⟨_, rfl⟩
  rw [hw1, hG, hV] at hSg
  have HS1 := hid hSg
  have HSK := hid (skip_idle hSg.sv.rd 1 (by omega) (fun h => by omega) (fun h => by omega) (fun h => by omega))
  have hR1 := lt_of_block hSg.sv.rd
  have e3 : ((p : Int) != 1) = true := by rw [bne_iff_ne]; omega
  have e3' : ((p : Int) == 1) = false := by rw [beq_eq_false_iff_ne]; omega
  have HPP : Hid (m.sec ≠ 1) := hid (by have := hm.2.2; omega)
  clear h hSg hp
  go_enter Tryz.func47, Tryz.ntmps47
  go_upto_region 1 with fail
  change Code.wp _ _ _ _ ((w.alloc (.cells #[.string ⟨#[]⟩, .string ⟨#[]⟩] 107)).alloc z37)
  rw [hw1]
  clear hw1
  go_wp2_with fail
  refine HSK.out.mono ?_
  rintro e w2 ⟨⟨x, y, rfl⟩, hr2, hf2⟩
  have HS2 := hid (HS1.out.call hr2 hf2)
  obtain ⟨x0, y0, hrow⟩ := HS2.out.sv.row
  have HROW := hid hrow
  obtain ⟨w3, hw3⟩ : ∃ w3, w2.setRow V (F37 false x y) = w3 := ⟨_, rfl⟩
  have hs3 := HS2.out.store false x y
  have hrow3 : w3.heap[V]? = some (.cells (F37 false x y) 37 (0, 0)) := by rw [← hw3]; exact setRow_heap _ _ _ _ _ _ hrow
  rw [hw3] at hs3
  have HS3 := hid hs3
  have n0 : w3.cell? ⟨V, 0, none⟩ = some (.bool false) := cell_of_row w3 V 0 _ _ _ hrow3
  have HROW3 := hid hrow3
  obtain ⟨c0, c1, c2, c3, fz⟩ := hs3.sv.rd.cells
  clear HS1 HSK hr2 hf2 hrow hrow3 hs3 c0 c1 c3 HS2
  go_wp2_with (refine wpList_store_row (o := ⟨none, .store 37 (.tmp 4) (.tmp 9), _, _, _, _⟩) rfl 37 _ _ rfl V (F37 false x y) rfl rfl 37 _ HROW.out info37t rfl (by simp [F37, Value.oneCell']) ?_; rw [hw3])
  refine region47_3 (G := G) (V := V) (cs := #[.string ⟨#[]⟩, .string ⟨#[]⟩]) (b := false) (x := x) (y := y) (fun _ _ _ _ _ h => h) rfl rfl rfl HS3.out.row rfl (by simp [Value.oneCell']) HROW3.out (fun e => HS3.out.gv e.symm) ?_
  have HR1 := (HS3.out.drew.setG #[.string ⟨#[]⟩, .string ⟨#[]⟩]).store false x y
  have hz : ((w3.drew.setRow G #[.string ⟨#[]⟩, .string ⟨#[]⟩]).setRow V (F37 false x y)).heap[V]? = some (.cells (F37 false x y) 37 (0, 0)) := setRow_heap _ _ _ _ _ _ ((setRow_other _ _ _ _ (fun e => HS3.out.gv e.symm)).trans HROW3.out)
  simp only [putAll, Act.put, List.setIfInBounds_toArray, List.set_cons_zero, List.set_cons_succ]
  go_wp2_with fail
  refine bodyPost_ret (res_ctc107 rfl rfl rfl rfl HR1.row hz rfl rfl) rfl ?_
  rw [mTag_off HPP.out]
  exact TagP.mk hm hfr HR1 _ _ _ _ _ _

set_option maxHeartbeats 8000000 in
set_option maxRecDepth 100000 in
theorem field_off {w : World} {R : Nat} {s : ByteArray} {i p fr : Nat} {m : MSt} (h : IsRd w R s i p fr) (hp : 2 < p) (hfr : fr ≤ i) (hm : Sp s i p m) :
    Calls Tryz.prog 48 #[.pointer (some ⟨R, 0, none⟩)] w (FieldP R s w (mField m).1 (mField m).2.bad (mField m).2.got fr) := by
  have hSg := Sg.begin h 50 #[.string ⟨#[]⟩, .int .i64 0, .string ⟨#[]⟩]
  obtain ⟨w1, hw1⟩ : ∃ w1, (w.alloc (.cells #[.string ⟨#[]⟩, .int .i64 0, .string ⟨#[]⟩] 50)).alloc z37 = w1 := ⟨_, rfl⟩
  obtain ⟨G, hG⟩ : ∃ G, w.heap.size = G := ⟨_, rfl⟩
  obtain ⟨V, hV⟩ : ∃ V, G + 1 = V := ⟨_, rfl⟩
  rw [hw1, hG, hV] at hSg
  have HS1 := hid hSg
  have HSK := hid (skip_idle hSg.sv.rd 2 (by omega) (fun h => by omega) (fun h => by omega) (fun h => by omega))
  have hR1 := lt_of_block hSg.sv.rd
  have e3 : ((p : Int) != 2) = true := by rw [bne_iff_ne]; omega
  have e3' : ((p : Int) == 2) = false := by rw [beq_eq_false_iff_ne]; omega
  have HPP : Hid (m.sec ≠ 2) := hid (by have := hm.2.2; omega)
  clear h hSg hp
  go_enter Tryz.func48, Tryz.ntmps48
  go_upto_region 1 with fail
  change Code.wp _ _ _ _ ((w.alloc (.cells #[.string ⟨#[]⟩, .int .i64 0, .string ⟨#[]⟩] 50)).alloc z37)
  rw [hw1]
  clear hw1
  go_wp2_with fail
  refine HSK.out.mono ?_
  rintro e w2 ⟨⟨x, y, rfl⟩, hr2, hf2⟩
  have HS2 := hid (HS1.out.call hr2 hf2)
  obtain ⟨x0, y0, hrow⟩ := HS2.out.sv.row
  have HROW := hid hrow
  obtain ⟨w3, hw3⟩ : ∃ w3, w2.setRow V (F37 false x y) = w3 := ⟨_, rfl⟩
  have hs3 := HS2.out.store false x y
  have hrow3 : w3.heap[V]? = some (.cells (F37 false x y) 37 (0, 0)) := by rw [← hw3]; exact setRow_heap _ _ _ _ _ _ hrow
  rw [hw3] at hs3
  have HS3 := hid hs3
  have n0 : w3.cell? ⟨V, 0, none⟩ = some (.bool false) := cell_of_row w3 V 0 _ _ _ hrow3
  have HROW3 := hid hrow3
  obtain ⟨c0, c1, c2, c3, fz⟩ := hs3.sv.rd.cells
  clear HS1 HSK hr2 hf2 hrow hrow3 hs3 c0 c1 c3 HS2
  go_wp2_with (refine wpList_store_row (o := ⟨none, .store 37 (.tmp 4) (.tmp 12), _, _, _, _⟩) rfl 37 _ _ rfl V (F37 false x y) rfl rfl 37 _ HROW.out info37t rfl (by simp [F37, Value.oneCell']) ?_; rw [hw3])
  refine region48_3 (G := G) (V := V) (cs := #[.string ⟨#[]⟩, .int .i64 0, .string ⟨#[]⟩]) (b := false) (x := x) (y := y) (fun _ _ _ _ _ h => h) rfl rfl rfl HS3.out.row rfl (by simp [Value.oneCell']) HROW3.out (fun e => HS3.out.gv e.symm) ?_
  have HR1 := (HS3.out.drew.setG #[.string ⟨#[]⟩, .int .i64 0, .string ⟨#[]⟩]).store false x y
  have hz : ((w3.drew.setRow G #[.string ⟨#[]⟩, .int .i64 0, .string ⟨#[]⟩]).setRow V (F37 false x y)).heap[V]? = some (.cells (F37 false x y) 37 (0, 0)) := setRow_heap _ _ _ _ _ _ ((setRow_other _ _ _ _ (fun e => HS3.out.gv e.symm)).trans HROW3.out)
  simp only [putAll, Act.put, List.setIfInBounds_toArray, List.set_cons_zero, List.set_cons_succ]
  go_wp2_with fail
  refine bodyPost_ret (res_ctc50 rfl rfl rfl rfl HR1.row hz rfl rfl) rfl ?_
  rw [mField_off HPP.out]
  exact FieldP.mk hm hfr HR1 _ _ _ _ _ _ _
end Go.Proofs.YtejlokdcocacaaaGreatDoor

/- The reference's entry: its frame, its regions. Printed by gen_le.py. -/
namespace Go.Proofs.YtejlokdcocacaaaGreatDoor
open Go.RowKit Go.Proofs.YtejlokdcocacaaaGreatDoorW.PrintLast

theorem below_setRow {B : Nat} {a b : World} (h : Below B a b) {g : Nat} (hg : B ≤ g) (cs : Array Value) : Below B a (b.setRow g cs) :=
  ⟨(setRow_os _ _ _).trans h.os, (setRow_tape _ _ _).trans h.tape, (setRow_output _ _ _).trans h.output, by have := h.size; simp; omega, fun k hk => (setRow_other b g k cs (by omega)).trans (h.block k hk)⟩

/-- Where the reference's entry stands: its decoder, its own block X, a growing row v. -/
structure Ev (w : World) (R : Nat) (s : ByteArray) (i p fr X : Nat) (cs : Array Value) (e z : Nat) (v : Value) (n : Nat) (xs : List Value) (wx : World) : Prop where
  rd : IsRd wx R s i p fr
  fm : Rds R w wx
  hx : wx.heap[X]? = some (.cells cs 48 (0, 0))
  own : wx.ownsRow (X + 1) e z v n xs
  rx : R < X
  x0 : w.heap.size ≤ X

section
variable {w : World} {R : Nat} {s : ByteArray} {i p fr X : Nat} {cs : Array Value} {e z : Nat} {v : Value} {n : Nat} {xs : List Value} {wx : World}
theorem Ev.begin (h : IsRd w R s i p fr) : Ev w R s i p fr w.heap.size zE 107 2 (.slice none 0 0) 0 [] (w.alloc (.cells zE 48)) :=
  ⟨h.alloc _, (Rds.refl R w).alloc _, heap_alloc_new _ _, rowE_nil _ _ _ _, lt_of_block h, Nat.le_refl _⟩
theorem Ev.below (h : Ev w R s i p fr X cs e z v n xs wx) {w' : World} (k : Below wx.heap.size wx w') : Ev w R s i p fr X cs e z v n xs w' :=
  ⟨h.rd.below k, h.fm.below k, (k.block _ (lt_of_block h.hx)).trans h.hx, rowE_keep h.own fun g hg => k.block g (rowE_lt h.own g hg).2, h.rx, h.x0⟩
theorem Ev.call (h : Ev w R s i p fr X cs e z v n xs wx) {i' p' fr' : Nat} {w' : World} (hr : IsRd w' R s i' p' fr') (hf : Rds R wx w') : Ev w R s i' p' fr' X cs e z v n xs w' := by
  have hrx := h.rx
  exact ⟨hr, h.fm.trans hf, (hf.block X (lt_of_block h.hx) (by omega)).trans h.hx, rowE_keep h.own fun g hg => hf.block g (rowE_lt h.own g hg).2 (by have := (rowE_lt h.own g hg).1; omega), h.rx, h.x0⟩
theorem Ev.set (h : Ev w R s i p fr X cs e z v n xs wx) (j : Nat) (u : Value) : Ev w R s i p fr X (cs.setIfInBounds j u) e z v n xs (wx.setCell ⟨X, j, none⟩ u) := by
  have hrx := h.rx
  refine ⟨h.rd.setNew (by show R ≠ X; omega) u, h.fm.setNew h.x0 u, heap_setCell_same wx X j _ _ u h.hx, rowE_keep h.own fun g hg => heap_setCell_other _ _ g _ ?_, h.rx, h.x0⟩
  have := (rowE_lt h.own g hg).1
  show g ≠ X
  omega
theorem Ev.mid (h : Ev w R s i p fr X cs e z v n xs wx) (j : Nat) (a b c d : Value) : Ev w R s i p fr X ((((cs.setIfInBounds j a).setIfInBounds (j + 1) b).setIfInBounds (j + 1 + 1) c).setIfInBounds (j + 1 + 1 + 1) d) e z v n xs (wx.setCells X j [a, b, c, d]) :=
  (((h.set j a).set (j + 1) b).set (j + 1 + 1) c).set (j + 1 + 1 + 1) d
theorem Ev.row (h : Ev w R s i p fr X cs e z v n xs wx) (cs' : Array Value) : Ev w R s i p fr X cs' e z v n xs (wx.setRow X cs') := by
  have hrx := h.rx
  refine ⟨h.rd.setRow (by omega) cs', h.fm.setRow h.x0 cs', setRow_heap _ _ _ _ _ _ h.hx, rowE_keep h.own fun g hg => setRow_other _ _ g _ ?_, h.rx, h.x0⟩
  have := (rowE_lt h.own g hg).1
  omega
theorem Ev.there (h : Ev w R s i p fr X cs e z v n xs wx) (j k : Nat) (hk : j + k ≤ cs.size) : wx.there X j k := fun q hq =>
  ⟨by rw [cell_of_row wx X (j + q) _ _ _ h.hx, Array.getElem?_eq_getElem (by omega)]; rfl, frozen_of_row wx X (j + q) _ _ h.hx⟩
theorem Ev.grow (h : Ev w R s i p fr X cs e z v n xs wx) {o : Obj} {w2 : World} {v' : Value} {n' : Nat} {xs' : List Value} (ho : w2.ownsRow (X + 1) e z v' n' xs') (hg : (wx.alloc o).grownBy w2 v.ownBlock) : Ev w R s i p fr X cs e z v' n' xs' w2 := by
  have hrx := h.rx
  have hxl := lt_of_block h.hx
  have hsz := hg.size
  simp only [World.size_alloc] at hsz
  have h0 := h.fm.size
  have kk : ∀ k, k < wx.heap.size → k ≤ X → w2.heap[k]? = wx.heap[k]? := fun k hk hx => by
    rw [hg.block k (by simp; omega) (fun e => by have := (rowE_lt h.own k e.symm).1; omega)]
    exact Below.heap_alloc wx o k hk
  have hx0 := h.x0
  exact ⟨(kk R (by omega) (by omega)).trans h.rd, ⟨hg.os.trans h.fm.os, hg.tape.trans h.fm.tape, hg.output.trans h.fm.output, by omega, fun k hk hd => (kk k (by omega) (by omega)).trans (h.fm.block k hk hd)⟩, (kk X hxl (Nat.le_refl _)).trans h.hx, ho, h.rx, h.x0⟩
theorem Ev.fresh (h : Ev w R s i p fr X cs e z v n xs wx) (e' z' : Nat) : Ev w R s i p fr X cs e' z' (.slice none 0 0) 0 [] wx := ⟨h.rd, h.fm, h.hx, rowE_nil _ _ _ _, h.rx, h.x0⟩
theorem Ev.drew (h : Ev w R s i p fr X cs e z v n xs wx) : Ev w R s i p fr X cs e z v n xs wx.drew := ⟨h.rd, h.fm.drew, h.hx, h.own, h.rx, h.x0⟩
end

theorem tag_any {w : World} {R : Nat} {s : ByteArray} {i p fr : Nat} {m : MSt} (ht : ∀ {w : World} {R : Nat} {s : ByteArray} {i fr : Nat} {m : MSt} (_ : IsRd w R s i 1 fr) (_ : s.size ≤ 1000) (_ : fr ≤ i) (_ : Sp s i 1 m), Calls Tryz.prog 47 #[.pointer (some ⟨R, 0, none⟩)] w (TagP R s w (mTag m).1 (mTag m).2.bad (mTag m).2.got fr))
    (h : IsRd w R s i p fr) (hs : s.size ≤ 1000) (hp : p = 1 ∨ p = 2) (hfr : fr ≤ i) (hm : Sp s i p m) :
    Calls Tryz.prog 47 #[.pointer (some ⟨R, 0, none⟩)] w (TagP R s w (mTag m).1 (mTag m).2.bad (mTag m).2.got fr) := by
  rcases hp with rfl | rfl
  · exact ht h hs hfr hm
  · exact tag_off h (by omega) hfr hm
theorem field_any {w : World} {R : Nat} {s : ByteArray} {i p fr : Nat} {m : MSt} (ht : ∀ {w : World} {R : Nat} {s : ByteArray} {i fr : Nat} {m : MSt} (_ : IsRd w R s i 2 fr) (_ : s.size ≤ 1000) (_ : fr ≤ i) (_ : Sp s i 2 m), Calls Tryz.prog 48 #[.pointer (some ⟨R, 0, none⟩)] w (FieldP R s w (mField m).1 (mField m).2.bad (mField m).2.got fr))
    (h : IsRd w R s i p fr) (hs : s.size ≤ 1000) (hp : 2 ≤ p) (hfr : fr ≤ i) (hm : Sp s i p m) :
    Calls Tryz.prog 48 #[.pointer (some ⟨R, 0, none⟩)] w (FieldP R s w (mField m).1 (mField m).2.bad (mField m).2.got fr) := by
  by_cases h2 : p = 2
  · subst h2
    exact ht h hs hfr hm
  · exact field_off h (by omega) hfr hm

section
variable {o : Oper} {v : Value} {ρ : Operand → Value} {w : World}
theorem x_load37s {x : Operand} {X : Nat} {cs : Array Value} (ho : o.op = .load 37 x) (hx : ρ x = .pointer (some ⟨X, 0, none⟩)) (hc : w.heap[X]? = some (.cells cs 37 (0, 0))) (h3 : cs.size = 4) : (execOp ρ o).run Tryz.prog w = .ok (.value (.agg cs)) w := by
  have h := run_loadVar_row (P := Tryz.prog) w X 37 37 cs (0, 0) _ hc Tryz.underlying37 rfl (by rw [h3]; exact info37t)
  unfold execOp
  simp only [ho, hx, Instr.loadAt, Instr.sureAddr, Sem.run_bind, Sem.run_pure, Result.andThen_ok, h]
theorem x_field48_6 {x : Operand} {X : Nat} (ho : o.op = .fieldAddr 48 x 6) (hx : ρ x = .pointer (some ⟨X, 0, none⟩)) : (execOp ρ o).run Tryz.prog w = .ok (.value (.pointer (some ⟨X, 9, none⟩))) w := by
  cases o
  simp only at ho
  subst ho
  go_simp
theorem x_field48_5 {x : Operand} {X : Nat} (ho : o.op = .fieldAddr 48 x 5) (hx : ρ x = .pointer (some ⟨X, 0, none⟩)) : (execOp ρ o).run Tryz.prog w = .ok (.value (.pointer (some ⟨X, 5, none⟩))) w := by
  cases o
  simp only at ho
  subst ho
  go_simp
theorem x_store3c {x y : Operand} {p : Addr} {old : Value} {m : Int} (ho : o.op = .store 3 x y) (hx : ρ x = .pointer (some p)) (hy : ρ y = .int .i64 m) (hc : w.cell? p = some old) (hf : w.frozen? p = false) : (execOp ρ o).run Tryz.prog w = .ok .skip (w.setCell p (.int .i64 m)) := by
  cases o
  simp only at ho
  subst ho
  go_simp
theorem x_storeMid {x y : Operand} {X j t : Nat} {cs : Array Value} (ho : o.op = .store t x y) (hx : ρ x = .pointer (some ⟨X, j, none⟩)) (hy : ρ y = .agg cs) (ht : w.there X j cs.size) (hi : (Tryz.prog.info? t).map (·.size) = some cs.size) (h1 : cs.all (·.oneCell') = true) : (execOp ρ o).run Tryz.prog w = .ok .skip (w.setCells X j cs.toList) := by
  have := run_storeAt_mid (P := Tryz.prog) w X j t cs ht hi h1
  unfold execOp
  simp only [ho, hx, hy, Sem.run_bind, Sem.run_pure, Result.andThen_ok, this]
end

noncomputable def ops22_6 : Array Oper := (Tryz.f22.body.bind (findRegion 6)).getD #[]

set_option maxHeartbeats 4000000 in
set_option maxRecDepth 100000 in
theorem region22_6 {Q : Exit → Act → World → Prop} {a : Act} {w : World} {X F : Nat} {cs : Array Value} {b : Bool} {x y : Int}
    (hQ : ∀ (d : Tmp) (v : Value) (c : List PanicEntry) (a : Act) (w : World), Q (.panic c) (a.put (some d) v) w → Q (.panic c) a w) (hsz : a.tmps.size = 75)
    (h2 : a.eval (.tmp 2) = .pointer (some ⟨X, 0, none⟩)) (h4 : a.eval (.tmp 5) = .pointer (some ⟨F, 0, none⟩))
    (hX : w.heap[X]? = some (.cells cs 48 (0, 0))) (hc : cs.size = 10) (hF : w.heap[F]? = some (.cells (F37 b x y) 37 (0, 0))) (hFX : F ≠ X)
    (hend : Q .normal ((putAll a [(29, .agg (F37 b x y)), (30, .pointer (some ⟨X, 9, none⟩))]).put (some 31) (.pointer (some ⟨X, 5, none⟩))) ((w.drew.setCell ⟨X, 9, none⟩ (.int .i64 1)).setCells X 5 [.bool b, .int .i64 x, .int .i64 y, .bool false])) :
    (Code.region 6 ops22_6 true).wp Tryz.prog Q a w := by
  generalize ho2 : ops22_6 = ops
  conv at ho2 => lhs; whnf
  subst ho2
  refine start_ (n := 5) (S := fun w9 : World => w9.heap[F]? = some (.cells (F37 b x y) 37 (0, 0))) (ds := [4]) #[false, false, false, false, false] (by kernel_rfl) rfl rfl hF (fun hHeld => ?_)
  refine take_ (i := 0) (N := some 29) (v := .agg (F37 b x y)) #[true, false, false, false, false] rfl rfl (by kernel_rfl) (hQ 29 _) (y_of rfl fun w9 hs9 => x_load37s rfl (by simp only [h4]) hs9 rfl) hHeld rfl ?_
  refine take_ (i := 1) (N := some 30) (v := .pointer (some ⟨X, 9, none⟩)) #[true, true, false, false, false] rfl rfl (by kernel_rfl) (hQ 30 _) (y_of rfl fun w9 hs9 => x_field48_6 rfl (by simp (disch := first | decide | ((repeat rw [put_size]); rw [hsz]; decide)) only [put_ne, h2])) hHeld rfl ?_
  obtain ⟨A, hA⟩ : ∃ A, putAll a [(29, .agg (F37 b x y)), (30, .pointer (some ⟨X, 9, none⟩))] = A := ⟨_, rfl⟩
  refine norm_ (a' := A) hA ?_
  have hAa : A.eval (.tmp 29) = .agg (F37 b x y) := by rw [← hA]; simp only [putAll]; simp (disch := first | decide | ((repeat rw [put_size]); rw [hsz]; decide)) only [put_ne, put_same]
  have hAs : A.tmps.size = 75 := by rw [← hA]; simp only [putAll, put_size, hsz]
  have hA2 : A.eval (.tmp 2) = .pointer (some ⟨X, 0, none⟩) := by rw [← hA]; simp only [putAll]; simp (disch := first | decide | ((repeat rw [put_size]); rw [hsz]; decide)) only [put_ne, h2]
  have hAb : A.eval (.tmp 30) = .pointer (some ⟨X, 9, none⟩) := by rw [← hA]; exact put_same _ _ _ (by (repeat rw [put_size]); rw [hsz]; decide)
  have HA := hid hA
  clear hA
  have hx9 : w.drew.cell? ⟨X, 9, none⟩ = some (cs[9]'(by omega)) := by rw [cell_of_row w.drew X 9 _ _ _ hX, Array.getElem?_eq_getElem (by omega)]
  refine one_ (i := 2) (N := none) #[true, true, true, false, false] rfl rfl (by kernel_rfl) (by decide) ?_
  intro K9 hK9
  refine skip_ (by rfl) rfl (x_store3c (m := 1) rfl hAb rfl hx9 (frozen_of_row w.drew X 9 _ _ hX)) ?_
  refine hK9 _ _ ((heap_setCell_other w.drew _ F _ hFX).trans hF) (fun _ => ?_)
  clear hK9 K9
  have hX2 : (w.drew.setCell ⟨X, 9, none⟩ (.int .i64 1)).heap[X]? = some (.cells (cs.setIfInBounds 9 (.int .i64 1)) 48 (0, 0)) := heap_setCell_same w.drew X 9 _ _ _ hX
  have ht : (w.drew.setCell ⟨X, 9, none⟩ (.int .i64 1)).there X 5 4 := fun q hq =>
    ⟨by rw [cell_of_row _ X (5 + q) _ _ _ hX2, Array.getElem?_eq_getElem (by simp; omega)]; rfl, frozen_of_row _ X (5 + q) _ _ hX2⟩
  refine pure_ (i := 3) (N := some 31) (v := .pointer (some ⟨X, 5, none⟩)) #[true, true, true, true, false] rfl rfl (by kernel_rfl) (hQ 31 _) (.inl ⟨by simp [Region.wanted], fun w9 => x_field48_5 rfl hA2⟩) rfl ?_
  have hAc : (A.put (some 31) (.pointer (some ⟨X, 5, none⟩))).eval (.tmp 31) = .pointer (some ⟨X, 5, none⟩) := put_same _ _ _ (by rw [hAs]; decide)
  have hAd : (A.put (some 31) (.pointer (some ⟨X, 5, none⟩))).eval (.tmp 29) = .agg (F37 b x y) := by rw [put_ne _ _ _ _ (by decide)]; exact hAa
  refine last_ (i := 4) (N := none) #[true, true, true, true, true] rfl rfl (by kernel_rfl) (by decide) ?_
  intro K9 hK9
  refine skip_ (by rfl) rfl (x_storeMid (cs := F37 b x y) rfl hAc hAd ht info37t (by simp [F37, Value.oneCell'])) ?_
  refine hK9 _ _ ?_
  refine done_ (by kernel_rfl) ?_
  rw [← HA.out]
  exact hend

noncomputable def ops22_12 : Array Oper := (Tryz.f22.body.bind (findRegion 12)).getD #[]

set_option maxHeartbeats 4000000 in
set_option maxRecDepth 100000 in
theorem region22_12 {Q : Exit → Act → World → Prop} {a : Act} {w : World} {X F : Nat} {cs : Array Value} {b : Bool} {x y : Int}
    (hQ : ∀ (d : Tmp) (v : Value) (c : List PanicEntry) (a : Act) (w : World), Q (.panic c) (a.put (some d) v) w → Q (.panic c) a w) (hsz : a.tmps.size = 75)
    (h2 : a.eval (.tmp 2) = .pointer (some ⟨X, 0, none⟩)) (h4 : a.eval (.tmp 8) = .pointer (some ⟨F, 0, none⟩))
    (hX : w.heap[X]? = some (.cells cs 48 (0, 0))) (hc : cs.size = 10) (hF : w.heap[F]? = some (.cells (F37 b x y) 37 (0, 0))) (hFX : F ≠ X)
    (hend : Q .normal ((putAll a [(49, .agg (F37 b x y)), (50, .pointer (some ⟨X, 9, none⟩))]).put (some 51) (.pointer (some ⟨X, 5, none⟩))) ((w.drew.setCell ⟨X, 9, none⟩ (.int .i64 2)).setCells X 5 [.bool b, .int .i64 x, .int .i64 y, .bool false])) :
    (Code.region 12 ops22_12 true).wp Tryz.prog Q a w := by
  generalize ho2 : ops22_12 = ops
  conv at ho2 => lhs; whnf
  subst ho2
  refine start_ (n := 5) (S := fun w9 : World => w9.heap[F]? = some (.cells (F37 b x y) 37 (0, 0))) (ds := [4]) #[false, false, false, false, false] (by kernel_rfl) rfl rfl hF (fun hHeld => ?_)
  refine take_ (i := 0) (N := some 49) (v := .agg (F37 b x y)) #[true, false, false, false, false] rfl rfl (by kernel_rfl) (hQ 49 _) (y_of rfl fun w9 hs9 => x_load37s rfl (by simp only [h4]) hs9 rfl) hHeld rfl ?_
  refine take_ (i := 1) (N := some 50) (v := .pointer (some ⟨X, 9, none⟩)) #[true, true, false, false, false] rfl rfl (by kernel_rfl) (hQ 50 _) (y_of rfl fun w9 hs9 => x_field48_6 rfl (by simp (disch := first | decide | ((repeat rw [put_size]); rw [hsz]; decide)) only [put_ne, h2])) hHeld rfl ?_
  obtain ⟨A, hA⟩ : ∃ A, putAll a [(49, .agg (F37 b x y)), (50, .pointer (some ⟨X, 9, none⟩))] = A := ⟨_, rfl⟩
  refine norm_ (a' := A) hA ?_
  have hAa : A.eval (.tmp 49) = .agg (F37 b x y) := by rw [← hA]; simp only [putAll]; simp (disch := first | decide | ((repeat rw [put_size]); rw [hsz]; decide)) only [put_ne, put_same]
  have hAs : A.tmps.size = 75 := by rw [← hA]; simp only [putAll, put_size, hsz]
  have hA2 : A.eval (.tmp 2) = .pointer (some ⟨X, 0, none⟩) := by rw [← hA]; simp only [putAll]; simp (disch := first | decide | ((repeat rw [put_size]); rw [hsz]; decide)) only [put_ne, h2]
  have hAb : A.eval (.tmp 50) = .pointer (some ⟨X, 9, none⟩) := by rw [← hA]; exact put_same _ _ _ (by (repeat rw [put_size]); rw [hsz]; decide)
  have HA := hid hA
  clear hA
  have hx9 : w.drew.cell? ⟨X, 9, none⟩ = some (cs[9]'(by omega)) := by rw [cell_of_row w.drew X 9 _ _ _ hX, Array.getElem?_eq_getElem (by omega)]
  refine one_ (i := 2) (N := none) #[true, true, true, false, false] rfl rfl (by kernel_rfl) (by decide) ?_
  intro K9 hK9
  refine skip_ (by rfl) rfl (x_store3c (m := 2) rfl hAb rfl hx9 (frozen_of_row w.drew X 9 _ _ hX)) ?_
  refine hK9 _ _ ((heap_setCell_other w.drew _ F _ hFX).trans hF) (fun _ => ?_)
  clear hK9 K9
  have hX2 : (w.drew.setCell ⟨X, 9, none⟩ (.int .i64 2)).heap[X]? = some (.cells (cs.setIfInBounds 9 (.int .i64 2)) 48 (0, 0)) := heap_setCell_same w.drew X 9 _ _ _ hX
  have ht : (w.drew.setCell ⟨X, 9, none⟩ (.int .i64 2)).there X 5 4 := fun q hq =>
    ⟨by rw [cell_of_row _ X (5 + q) _ _ _ hX2, Array.getElem?_eq_getElem (by simp; omega)]; rfl, frozen_of_row _ X (5 + q) _ _ hX2⟩
  refine pure_ (i := 3) (N := some 51) (v := .pointer (some ⟨X, 5, none⟩)) #[true, true, true, true, false] rfl rfl (by kernel_rfl) (hQ 51 _) (.inl ⟨by simp [Region.wanted], fun w9 => x_field48_5 rfl hA2⟩) rfl ?_
  have hAc : (A.put (some 51) (.pointer (some ⟨X, 5, none⟩))).eval (.tmp 51) = .pointer (some ⟨X, 5, none⟩) := put_same _ _ _ (by rw [hAs]; decide)
  have hAd : (A.put (some 51) (.pointer (some ⟨X, 5, none⟩))).eval (.tmp 49) = .agg (F37 b x y) := by rw [put_ne _ _ _ _ (by decide)]; exact hAa
  refine last_ (i := 4) (N := none) #[true, true, true, true, true] rfl rfl (by kernel_rfl) (by decide) ?_
  intro K9 hK9
  refine skip_ (by rfl) rfl (x_storeMid (cs := F37 b x y) rfl hAc hAd ht info37t (by simp [F37, Value.oneCell'])) ?_
  refine hK9 _ _ ?_
  refine done_ (by kernel_rfl) ?_
  rw [← HA.out]
  exact hend
end Go.Proofs.YtejlokdcocacaaaGreatDoor
