/- told, for a time. -/
import Derived.Test.YtejlokdcocacaaaGreatDoorToldR
namespace Go.Proofs.YtejlokdcocacaaaGreatDoor
open Go.RowKit Go.Proofs.YtejlokdcocacaaaGreatDoorW.PrintLast

theorem assert_other (p : Option Addr) (w : World) : (Instr.typeAssert (.iface 167 (.pointer p)) 57 129 true).run Tryz.prog w = .ok (.tuple #[.pointer none, .bool false]) w := by kernel_rfl

set_option maxHeartbeats 1000000 in
theorem outside_out {w : World} {B : Nat} {v : Value} (h : OutIs B w v) : Calls Tryz.prog 60 #[v] w fun e w' => e = .returned (.bool true) ∧ w' = w := by
  obtain ⟨g, c, t, rfl, hlt, hg2, hc⟩ := h
  have hu := underlying57
  obtain ⟨i, hi1, hi2⟩ := Option.map_eq_some_iff.1 info167
  obtain ⟨j, hj1, hj3⟩ := Option.map_eq_some_iff.1 info169
  have heq := run_eql_iface_ptr_same (P := Tryz.prog) w (a := g) hu underlying167 hi1 hi2 hj1
  clear hlt hu hi1 hi2 hg2 hj1 hj3
  go_enter Tryz.func60, Tryz.ntmps60
  go_wp2
  go_ret
  exact ⟨rfl, rfl⟩

set_option maxHeartbeats 2000000 in
set_option maxRecDepth 100000 in
theorem fault_out {w : World} {B : Nat} {v : Value} (h : OutIs B w v) : Calls Tryz.prog 30 #[v] w fun e w' => e = .returned (.agg #[.bool true, .int .i64 0, .int .i64 0, .bool true]) ∧ Below w.heap.size w w' := by
  have ha := assert_other
  have HO := fun (w1 : World) (hb : Below w.heap.size w w1) => outside_out (w := w1) (B := B) (v := v) (by
    obtain ⟨g, c, t, rfl, hlt, hg2, hc⟩ := h
    have hl1 : 1 < w.heap.size := by
      rcases hb1 : w.heap[1]? with _ | o
      · unfold World.cell? at hc; simp only [hb1] at hc; simp at hc
      · exact lt_of_block hb1
    exact ⟨g, c, t, rfl, hlt, (hb.block g.block (lt_of_block hg2)).trans hg2, (World.cell?_of_block (w := w) (a := ⟨1, 0, none⟩) (hb.block 1 hl1)).trans hc⟩)
  have HO := hid HO
  obtain ⟨g, c, t, rfl, hlt, hg2, hc⟩ := h
  clear hlt hg2 hc
  go_enter Tryz.func30, Tryz.ntmps30
  go_wp2_with fail
  refine (HO.out _ ?b1).mono ?_
  case b1 => go_grown
  rintro e w1 ⟨rfl, rfl⟩
  go_wp2_with fail
  refine bodyPost_ret (by simp [results, Tryz.results30, go_sem]; try rfl) rfl ?_
  exact ⟨rfl, by go_grown⟩

section
variable {w w' : World} {B D T E E0 E' : Nat} {w0 : World} {m a : MSt}
theorem Dc.rebase (h : Dc B D T E0 w0 m E w) : Dc B D T E w m E w := by
  obtain ⟨es, hr, he⟩ := h.ex
  exact Dc.start hr he h.ok
theorem Dc.chain (h : Dc B D T E0 w0 m E w) (k : Dc B D T E w a E' w') : Dc B D T E0 w0 a E' w' := ⟨k.ex, h.st.trans k.st (Nat.le_refl _) h.de0, k.ok, h.dlt, h.tlt, h.b4, h.bd, h.de0, h.be0⟩
theorem Dc.old (k : Dc B D T E w a E' w') {g : Nat} (h1 : g < w.heap.size) (h2 : g ≠ D) (h3 : g ≠ E) : w'.heap[g]? = w.heap[g]? ∧ g ≠ E' :=
  ⟨k.st.block g h1 h2 h3, by rcases k.st.esc with e | e <;> omega⟩
end

section
variable {w : World} {B D T E E0 : Nat} {w0 : World} {m a : MSt}

set_option maxHeartbeats 1600000 in
set_option maxRecDepth 100000 in
/-- told for a time, by what DoorTime leaves. -/
theorem told_time (h : Dc B D T E0 w0 m E w) (p : Nat) (hp : p ≤ 3) (ns : Int) (n : Int) (v : Value) (b : Bool) (fi fr : Bool) (fl fc : Int) (RV : World → Prop)
    (hb : ∀ w, (binOp .eql 57 v .nilIface).run Tryz.prog w = .ok (.bool b) w)
    (hd : ∀ w1, Dc B D T E w1 m E w1 → w.heap.size + 2 = w1.heap.size → Below w.heap.size w w1 → Calls Tryz.prog 36 #[.pointer (some ⟨D, 0, none⟩), .int .u8 p, .int .i64 ns] w1 fun e w' => e = .returned (.tuple #[.int .i64 n, v]) ∧ RV w' ∧ ∃ E', Dc B D T E w1 a E' w')
    (hf : ∀ w', RV w' → ∀ k, Calls Tryz.prog 30 #[v] (w'.drewN k) fun e w2 => e = .returned (.agg #[.bool fi, .int .i64 fl, .int .i64 fc, .bool fr]) ∧ Below w'.heap.size w' w2) :
    Calls Tryz.prog 13 #[.pointer (some ⟨D, 0, none⟩), .agg #[.int .i64 6, .int .i64 p, .int .i64 ns]] w fun e w' => e = .returned (.agg (toldC b ⟨#[]⟩ ⟨#[]⟩ 0 n fi fl fc fr)) ∧ ∃ E', Dc B D T E0 w0 a E' w' := by
  have h1 := (h.alloc (askO 6 p ns)).alloc z39
  have hz : ((w.alloc (askO 6 p ns)).alloc z39).heap[w.heap.size + 1]? = some z39 := heap_alloc2_new _ _ _
  have HT := hid (hd _ h1.rebase (by simp) (((Below.refl _ _).alloc (Nat.le_refl _) _).alloc (by simp) _))
  have HZ := hid hz
  have HH := hid h1
  have HB := hid hb
  have HF := hid hf
  have hs0 := h.st.size
  have hp2 : (p : Int) ≤ 255 := by omega
  have hdl := h.dlt
  have hE : E < w.heap.size := by obtain ⟨es, hr, _⟩ := h.ex; exact hr.lt.2.2.1
  unfold askO z39 toldC at HT
  clear h h1 hz hb hd hf
  go_enter Tryz.func13, Tryz.ntmps13
  go_wp2_with fail
  refine HT.out.mono ?_
  rintro e w1 ⟨rfl, hrv, E1, hd1⟩
  have ho := hd1.old (g := w.heap.size + 1) (by simp) (by omega) (by omega)
  have HZ1 := hid (ho.1.trans HZ.out)
  have HGE := hid ho.2
  have HD1 := hid (HH.out.chain hd1)
  have HRV := hid hrv
  have hlt := lt_of_block HZ1.out
  have hsz := hd1.st.size
  simp only [World.size_alloc] at hsz
  clear ho hd1 hrv HT HZ HH
  go_wp2_with fail
  refine region13_24 (G := w.heap.size + 1) (k20 := n) (v21 := v) (b21 := b) (fi := fi) (fl := fl) (fc := fc) (fr := fr) (fun _ _ _ _ _ h => h) rfl rfl rfl rfl HB.out (HF.out _ HRV.out 1) (fun w9 hb9 => (hb9.block _ hlt).trans HZ1.out) rfl ?_
  intro w9 hb9
  have HD9 := hid (HD1.out.below hb9)
  have HZ9 := hid ((hb9.block _ hlt).trans HZ1.out)
  clear hb9 HD1 HZ1 HF HRV HB
  simp only [putAll, Act.put, List.setIfInBounds_toArray, List.set_cons_zero, List.set_cons_succ]
  go_wp2_with fail
  refine bodyPost_ret (res39 rfl rfl (setRow_heap _ _ _ _ _ _ HZ9.out) rfl) rfl ?_
  exact ⟨rfl, E1, HD9.out.setRow (by omega) HGE.out _⟩

theorem eql57_nil (w : World) : (binOp .eql 57 .nilIface .nilIface).run Tryz.prog w = .ok (.bool true) w := by kernel_rfl
theorem eql57_iface (g : Addr) (w : World) : (binOp .eql 57 (.iface 167 (.pointer (some g))) .nilIface).run Tryz.prog w = .ok (.bool false) w := by kernel_rfl

theorem undrew {w w2 : World} {k : Nat} (h : Below (w.drewN k).heap.size (w.drewN k) w2) : Below w.heap.size w w2 := ⟨h.os, h.tape, h.output, h.size, h.block⟩

theorem told_ok (h : Dc B D T E0 w0 m E w) (p : Nat) (hp : p ≤ 3) (ns : Int) (d0 : -9223372036854775808 ≤ ns) (d1 : ns ≤ 9223372036854775807) {l : List UInt8} {x n : Int}
    (ht : timeOf (toK 3 m).2 (toK 3 m).1 = (a, .ok l)) (hl : l ≠ []) (hll : l.length ≤ 900) (hx : Lib.parseIntB 64 l = .ok x) (hn : nanosOf p x = (n, true)) (n0 : -9223372036854775808 ≤ n) (n1 : n ≤ 9223372036854775807) :
    Calls Tryz.prog 13 #[.pointer (some ⟨D, 0, none⟩), .agg #[.int .i64 6, .int .i64 p, .int .i64 ns]] w fun e w' => e = .returned (.agg (toldC true ⟨#[]⟩ ⟨#[]⟩ 0 n false 0 0 false)) ∧ ∃ E', Dc B D T E0 w0 a E' w' :=
  told_time h p hp ns n .nilIface true false false 0 0 (fun _ => True) eql57_nil
    (fun _ h1 _ _ => (door_ok h1 p hp ns d0 d1 ht hl hll hx hn n0 n1).mono fun _ _ ⟨he, hd⟩ => ⟨he, trivial, hd⟩)
    (fun w' _ k => (fault_none (w'.drewN k)).mono fun _ _ ⟨he, hb⟩ => ⟨he, undrew hb⟩)

theorem told_none (h : Dc B D T E0 w0 m E w) (p : Nat) (hp : p ≤ 3) (ns : Int) (d0 : -9223372035854775808 ≤ ns) (d1 : ns ≤ 9223372036854775807)
    (ht : timeOf (toK 3 m).2 (toK 3 m).1 = (a, .ok [])) :
    Calls Tryz.prog 13 #[.pointer (some ⟨D, 0, none⟩), .agg #[.int .i64 6, .int .i64 p, .int .i64 ns]] w fun e w' => e = .returned (.agg (toldC true ⟨#[]⟩ ⟨#[]⟩ 0 (ns - ns % ticksOf p) false 0 0 false)) ∧ ∃ E', Dc B D T E0 w0 a E' w' :=
  told_time h p hp ns (ns - ns % ticksOf p) .nilIface true false false 0 0 (fun _ => True) eql57_nil
    (fun _ h1 _ _ => (door_none h1 p hp ns d0 d1 ht).mono fun _ _ ⟨he, hd⟩ => ⟨he, trivial, hd⟩)
    (fun w' _ k => (fault_none (w'.drewN k)).mono fun _ _ ⟨he, hb⟩ => ⟨he, undrew hb⟩)

theorem OutIs.drewN {B : Nat} {w : World} {v : Value} (h : OutIs B w v) (k : Nat) : OutIs B (w.drewN k) v := h

theorem told_out (h : Dc B D T E0 w0 m E w) (p : Nat) (hp : p ≤ 3) (ns : Int) (d0 : -9223372036854775808 ≤ ns) (d1 : ns ≤ 9223372036854775807) {l : List UInt8} {x n : Int}
    (ht : timeOf (toK 3 m).2 (toK 3 m).1 = (a, .ok l)) (hl : l ≠ []) (hll : l.length ≤ 900) (hx : Lib.parseIntB 64 l = .ok x) (hn : nanosOf p x = (n, false)) (hg : Glob B w0) :
    Calls Tryz.prog 13 #[.pointer (some ⟨D, 0, none⟩), .agg #[.int .i64 6, .int .i64 p, .int .i64 ns]] w fun e w' => e = .returned (.agg (toldC false ⟨#[]⟩ ⟨#[]⟩ 0 0 true 0 0 true)) ∧ ∃ E', Dc B D T E0 w0 a E' w' := by
  have hgw := h.glob hg
  obtain ⟨g, c, t, g1, g2, g3⟩ := id hgw
  refine told_time h p hp ns 0 (.iface 167 (.pointer (some g))) false true true 0 0 (fun w' => OutIs B w' (.iface 167 (.pointer (some g)))) (eql57_iface g)
    (fun w1 h1 hs hb => (door_out h1 p hp ns d0 d1 ht hl hll hx hn (hgw.grow hb)).mono ?_)
    (fun w' ho k => (fault_out (ho.drewN k)).mono fun _ _ ⟨he, hb⟩ => ⟨he, undrew hb⟩)
  rintro e w2 ⟨v, rfl, hov, E2, hd2⟩
  have hw : w2.cell? ⟨1, 0, none⟩ = some (.iface 167 (.pointer (some g))) := by
    have hb4 := h1.b4
    have hk := hd2.st.toBelow hd2.bd hd2.be0 (by have := hd2.bd; have := hd2.dlt; omega)
    have hl1 : 1 < w.heap.size := by have := h.bd; have := h.dlt; have := h.st.size; omega
    exact ((World.cell?_of_block (w := w1) (a := ⟨1, 0, none⟩) (hk.block 1 (by omega))).trans (World.cell?_of_block (w := w) (a := ⟨1, 0, none⟩) (hb.block 1 hl1))).trans g1
  have hv : v = .iface 167 (.pointer (some g)) := by
    obtain ⟨g', c', t', hv, _, _, hc⟩ := id hov
    rw [hw] at hc
    rw [hv]
    exact (Option.some.inj hc).symm
  subst hv
  exact ⟨rfl, hov, E2, hd2⟩
end
end Go.Proofs.YtejlokdcocacaaaGreatDoor
