/- Decoder.Time and DoorTime, where the line's time is read. -/
import Derived.Test.YtejlokdcocacaaaGreatDoorDcx
import Derived.Test.YtejlokdcocacaaaGreatDoorTm
import Derived.Test.YtejlokdcocacaaaGreatDoorShl
import Derived.Orders
namespace Go.Proofs.YtejlokdcocacaaaGreatDoor
open Go.RowKit

set_option maxHeartbeats 800000 in
theorem parseInt_code {w : World} {v : Value} {l : List UInt8} {x : Int} (h : BytesIs w v l) (hl : l.length ≤ 900) (hp : Lib.parseIntB 64 l = .ok x) :
    Calls Tryz.prog 108 #[v, .int .i64 10, .int .i64 64] w fun e w' => e = .returned (.tuple #[.int .i64 x, .nilIface]) ∧ Below w.heap.size w w' := by
  have hcv := run_bytes_string h
  have HP := hid (Tryz.parseInt_ok ⟨l.toArray⟩ (by show l.toArray.size ≤ _; simp; omega) x (by simpa using hp) w)
  obtain ⟨b, o, c, rfl, _⟩ := h
  clear hp
  generalize (⟨l.toArray⟩ : ByteArray) = s at *
  go_enter Tryz.func108, Tryz.ntmps108
  go_wp2_with fail
  refine HP.out.mono ?_
  rintro e w1 ⟨rfl, hw⟩
  have HB : Hid (Below w.heap.size w w1) := by
    refine hid ?_
    rcases hw with rfl | ⟨t, rfl⟩
    · exact Below.refl _ _
    · exact bytes_below w 5 t
  clear hw
  go_wp2_with fail
  go_ret2
  exact ⟨rfl, HB.out⟩

def z144 : Obj := .cells #[.int .u64 0, .int .i64 0, .pointer none] 144
def tmO (x : Int) : Obj := .cells #[.int .u64 (x % 1000000000), .int .i64 (x / 1000000000), .pointer none] 144

theorem TmAt.keep {w w' : World} {b : Nat} {x : Int} (h : TmAt w b x) (hk : w'.heap[b]? = w.heap[b]?) : TmAt w' b x := hk.trans h

section
variable {w : World} {B D T E E0 : Nat} {w0 : World} {m a : MSt}

set_option maxHeartbeats 1600000 in
set_option maxRecDepth 100000 in
theorem time83_ok (h : Dc B D T E0 w0 m E w) (p : Nat) (hp : p ≤ 3) (dx : Int) {l : List UInt8} {x n : Int}
    (ht : timeOf (toK 3 m).2 (toK 3 m).1 = (a, .ok l)) (hl : l ≠ []) (hll : l.length ≤ 900) (hx : Lib.parseIntB 64 l = .ok x) (hn : nanosOf p x = (n, true)) (n0 : -9223372036854775808 ≤ n) (n1 : n ≤ 9223372036854775807) :
    Calls Tryz.prog 83 #[.pointer (some ⟨D, 0, none⟩), .int .u8 p, tmV dx] w fun e w' => e = .returned (.tuple #[tmV (epoch + n), .nilIface]) ∧ ∃ E', Dc B D T E0 w0 a E' w' := by
  have h1 := (h.alloc (tmO dx)).alloc z144
  have hok := (adv_timeOf m).ok h.ok
  have HT := hid h1.time
  rw [ht] at HT hok
  have hz : TmAt ((w.alloc (tmO dx)).alloc z144) (w.heap.size + 1) 0 := heap_alloc2_new _ _ _
  have hs0 := h.st.size
  have hdl := h.dlt
  have hE : E < w.heap.size := by obtain ⟨es, hr, _⟩ := h.ex; exact hr.lt.2.2.1
  have HH := hid h1
  have HZ := hid hz
  have HOK := hid hok
  have HL := hid hl
  have HX := hid hx
  have HN := hid hn
  unfold tmO z144 at HT
  have HU := fun w => asNanos_any (w := w) p hp x
  have HU := hid HU
  clear h h1 hok hz hl hx hn ht
  have heq := fun (w : World) (a : Option Addr) (n c : Nat) => Lib.run_eql_slice_nil (P := Tryz.prog) w 69 5 a n c 0 0 Tryz.underlying69
  unfold tmV
  go_enter Tryz.func83, Tryz.ntmps83
  go_wp2_with fail
  refine HT.out.mono ?_
  rintro e w1 hx1
  obtain ⟨E1, v, rfl, hR, hD1, hkeep, hsz⟩ := HH.out.call HOK.out hx1
  simp only [TimeIs] at hR
  obtain ⟨v1, hv1, rfl⟩ := hR
  have hbi : BytesFar D w1 v1 l := by
    rcases hv1 with hv1 | hv1
    · exact absurd hv1.1 HL.out
    · exact hv1.2
  have hg := hkeep (w.heap.size + 1) (by simp) (by omega) (by omega)
  have HZ1 := hid (HZ.out.keep hg.1)
  have HGE := hid hg.2
  have HD1 := hid hD1
  have HBI := hid hbi.is
  have HP := hid (parseInt_code hbi.is hll HX.out)
  obtain ⟨b1, o1, c1, rfl, hb1⟩ := hbi
  clear hkeep hg hv1 hx1 hD1 hb1 HT HH HZ
  simp only [World.size_alloc] at hsz
  go_wp2_with fail
  refine HP.out.mono ?_
  rintro e w2 ⟨rfl, hb2⟩
  have HD2 := hid (HD1.out.below hb2)
  have hlt1 := lt_of_block HZ1.out
  have HZ2 := hid (HZ1.out.keep (hb2.block _ hlt1))
  have hsz2 := hb2.size
  clear HD1 HZ1 HP hb2 HBI
  go_wp2_with fail
  refine (HU.out _).mono ?_; rintro e w3 ⟨rfl, rfl⟩
  rw [HN.out]
  go_wp2_with fail
  refine (unix_any n n0 n1).mono ?_
  rintro e w3 ⟨rfl, hb3⟩
  have HD3 := hid (HD2.out.below hb3)
  have hz3 := HZ2.out.keep (hb3.block _ (lt_of_block HZ2.out))
  have HZ3 := hid hz3
  obtain ⟨t0, t1, t2, tf⟩ := hz3.cells
  clear HD2 HZ2 hb3 hz3
  unfold tmV
  go_wp2_with fail
  have hL := layTm HZ3.out (.int .u64 ((epoch + n) % 1000000000)) (.int .i64 ((epoch + n) / 1000000000)) (.pointer none)
  have hge := HGE.out
  have HD4 := hid (((HD3.out.setNew (p := ⟨w.heap.size + 1, 0, none⟩) (by simp; omega) hge (.int .u64 ((epoch + n) % 1000000000))).setNew (p := ⟨w.heap.size + 1, 1, none⟩) (by simp; omega) hge (.int .i64 ((epoch + n) / 1000000000))).setNew (p := ⟨w.heap.size + 1, 2, none⟩) (by simp; omega) hge (.pointer none))
  generalize ((w3.setCell ⟨w.heap.size + 1, 0, none⟩ (.int .u64 ((epoch + n) % 1000000000))).setCell ⟨w.heap.size + 1, 1, none⟩ (.int .i64 ((epoch + n) / 1000000000))).setCell ⟨w.heap.size + 1, 2, none⟩ (.pointer none) = w4 at hL HD4 ⊢
  obtain ⟨u0, u1, u2, uf⟩ := TmAt.cells (x := epoch + n) hL
  refine bodyPost_ret (v := .tuple #[tmV (epoch + n), .nilIface]) (by simp [results, Tryz.results83, go_sem, u0, u1, u2, tmV]; try rfl) rfl ?_
  exact ⟨rfl, E1, HD4.out⟩

set_option maxHeartbeats 1600000 in
set_option maxRecDepth 100000 in
theorem time83_out (h : Dc B D T E0 w0 m E w) (p : Nat) (hp : p ≤ 3) (dx : Int) {l : List UInt8} {x n : Int}
    (ht : timeOf (toK 3 m).2 (toK 3 m).1 = (a, .ok l)) (hl : l ≠ []) (hll : l.length ≤ 900) (hx : Lib.parseIntB 64 l = .ok x) (hn : nanosOf p x = (n, false)) (hg : Glob B w0) :
    Calls Tryz.prog 83 #[.pointer (some ⟨D, 0, none⟩), .int .u8 p, tmV dx] w fun e w' => ∃ (g : Addr) (c : Array Value) (t : TypeId), e = .returned (.tuple #[tmV 0, .iface 167 (.pointer (some g))]) ∧ g.block < B ∧ w'.heap[g.block]? = some (.cells c t (0, 0)) ∧ w'.cell? ⟨1, 0, none⟩ = some (.iface 167 (.pointer (some g))) ∧ ∃ E', Dc B D T E0 w0 a E' w' := by
  have h1 := (h.alloc (tmO dx)).alloc z144
  have hok := (adv_timeOf m).ok h.ok
  have HT := hid h1.time
  rw [ht] at HT hok
  have hz : TmAt ((w.alloc (tmO dx)).alloc z144) (w.heap.size + 1) 0 := heap_alloc2_new _ _ _
  have hs0 := h.st.size
  have hdl := h.dlt
  have hE : E < w.heap.size := by obtain ⟨es, hr, _⟩ := h.ex; exact hr.lt.2.2.1
  have HH := hid h1
  have HZ := hid hz
  have HOK := hid hok
  have HL := hid hl
  have HX := hid hx
  have HN := hid hn
  unfold tmO z144 at HT
  have HU := fun w => asNanos_any (w := w) p hp x
  have HU := hid HU
  have HG := hid hg
  clear h h1 hok hz hl hx hn ht hg
  have heq := fun (w : World) (a : Option Addr) (n c : Nat) => Lib.run_eql_slice_nil (P := Tryz.prog) w 69 5 a n c 0 0 Tryz.underlying69
  unfold tmV
  go_enter Tryz.func83, Tryz.ntmps83
  go_wp2_with fail
  refine HT.out.mono ?_
  rintro e w1 hx1
  obtain ⟨E1, v, rfl, hR, hD1, hkeep, hsz⟩ := HH.out.call HOK.out hx1
  simp only [TimeIs] at hR
  obtain ⟨v1, hv1, rfl⟩ := hR
  have hbi : BytesFar D w1 v1 l := by
    rcases hv1 with hv1 | hv1
    · exact absurd hv1.1 HL.out
    · exact hv1.2
  have hg := hkeep (w.heap.size + 1) (by simp) (by omega) (by omega)
  have HZ1 := hid (HZ.out.keep hg.1)
  have HGE := hid hg.2
  have HD1 := hid hD1
  have HBI := hid hbi.is
  have HP := hid (parseInt_code hbi.is hll HX.out)
  obtain ⟨b1, o1, c1, rfl, hb1⟩ := hbi
  clear hkeep hg hv1 hx1 hD1 hb1 HT HH HZ
  simp only [World.size_alloc] at hsz
  go_wp2_with fail
  refine HP.out.mono ?_
  rintro e w2 ⟨rfl, hb2⟩
  have HD2 := hid (HD1.out.below hb2)
  have hlt1 := lt_of_block HZ1.out
  have HZ2 := hid (HZ1.out.keep (hb2.block _ hlt1))
  have hsz2 := hb2.size
  clear HD1 HZ1 HP hb2 HBI
  go_wp2_with fail
  refine (HU.out _).mono ?_; rintro e w3 ⟨rfl, rfl⟩
  rw [HN.out]
  obtain ⟨g, c, t, g1, g2, g3⟩ := HD2.out.glob HG.out
  have hz3 := HZ2.out
  obtain ⟨t0, t1, t2, tf⟩ := hz3.cells
  have HG3 := hid g3
  have hg2 := g2
  have hbd := HD2.out.bd
  clear g3 g2 hz3
  go_wp2_with fail
  go_region
  all_goals
    go_wp2_with fail
    have hL := layTm HZ2.out (.int .u64 0) (.int .i64 0) (.pointer none)
    have hge := HGE.out
    have hgw := HG3.out
    have hb4 := HD2.out.b4
    have key : ∀ k, k < w.heap.size → (((w2.setCell ⟨w.heap.size + 1, 0, none⟩ (.int .u64 0)).setCell ⟨w.heap.size + 1, 1, none⟩ (.int .i64 0)).setCell ⟨w.heap.size + 1, 2, none⟩ (.pointer none)).heap[k]? = w2.heap[k]? := fun k hk => by
      rw [heap_setCell_other _ _ k _ (by show k ≠ w.heap.size + 1; omega), heap_setCell_other _ _ k _ (by show k ≠ w.heap.size + 1; omega), heap_setCell_other _ _ k _ (by show k ≠ w.heap.size + 1; omega)]
    have g4 := (key g.block (by omega)).trans hgw
    have g5 := (World.cell?_of_block (w := w2) (a := ⟨1, 0, none⟩) (key 1 (by omega))).trans g1
    clear key
    have HD4 := hid (((HD2.out.setNew (p := ⟨w.heap.size + 1, 0, none⟩) (by simp; omega) hge (.int .u64 0)).setNew (p := ⟨w.heap.size + 1, 1, none⟩) (by simp; omega) hge (.int .i64 0)).setNew (p := ⟨w.heap.size + 1, 2, none⟩) (by simp; omega) hge (.pointer none))
    generalize ((w2.setCell ⟨w.heap.size + 1, 0, none⟩ (.int .u64 0)).setCell ⟨w.heap.size + 1, 1, none⟩ (.int .i64 0)).setCell ⟨w.heap.size + 1, 2, none⟩ (.pointer none) = w4 at hL HD4 g4 g5 ⊢
    have hL2 : TmAt w4.drew (w.heap.size + 1) 0 := hL
    obtain ⟨u0, u1, u2, uf⟩ := hL2.cells
    refine bodyPost_ret (v := .tuple #[tmV 0, .iface 167 (.pointer (some g))]) (by simp [results, Tryz.results83, go_sem, u0, u1, u2, tmV]; try rfl) rfl ?_
    exact ⟨g, c, t, rfl, hg2, g4, g5, E1, HD4.out.drewN 1⟩


set_option maxHeartbeats 1600000 in
set_option maxRecDepth 100000 in
theorem time83_none (h : Dc B D T E0 w0 m E w) (p : Nat) (hp : p ≤ 3) (dx : Int) (dx0 : 1000000000 ≤ dx) (dx1 : dx ≤ 90000000000 * 1000000000)
    (ht : timeOf (toK 3 m).2 (toK 3 m).1 = (a, .ok [])) :
    Calls Tryz.prog 83 #[.pointer (some ⟨D, 0, none⟩), .int .u8 p, tmV dx] w fun e w' => e = .returned (.tuple #[tmV (dx - dx % ticksOf p), .nilIface]) ∧ ∃ E', Dc B D T E0 w0 a E' w' := by
  have h1 := (h.alloc (tmO dx)).alloc z144
  have hok := (adv_timeOf m).ok h.ok
  have HT := hid h1.time
  rw [ht] at HT hok
  have hz : TmAt ((w.alloc (tmO dx)).alloc z144) (w.heap.size + 1) 0 := heap_alloc2_new _ _ _
  have hs0 := h.st.size
  have hdl := h.dlt
  have hE : E < w.heap.size := by obtain ⟨es, hr, _⟩ := h.ex; exact hr.lt.2.2.1
  have HH := hid h1
  have HZ := hid hz
  have HOK := hid hok
  unfold tmO z144 at HT
  clear h h1 hok hz ht
  have heq := fun (w : World) (a : Option Addr) (n c : Nat) => Lib.run_eql_slice_nil (P := Tryz.prog) w 69 5 a n c 0 0 Tryz.underlying69
  unfold tmV
  go_enter Tryz.func83, Tryz.ntmps83
  go_wp2_with fail
  refine HT.out.mono ?_
  rintro e w1 hx1
  obtain ⟨E1, v, rfl, hR, hD1, hkeep, hsz⟩ := HH.out.call HOK.out hx1
  simp only [TimeIs] at hR
  obtain ⟨v1, hv1, rfl⟩ := hR
  have hv2 : v1 = .slice none 0 0 := by
    rcases hv1 with hv1 | hv1
    · exact hv1.2
    · exact absurd rfl hv1.1
  subst hv2
  have hg := hkeep (w.heap.size + 1) (by simp) (by omega) (by omega)
  have HZ1 := hid (HZ.out.keep hg.1)
  have HGE := hid hg.2
  have HD1 := hid hD1
  have htx : TmAt ((w.alloc (tmO dx)).alloc z144) w.heap.size dx := heap_alloc2_old _ _ _
  have htx1 := htx.keep (hkeep w.heap.size (by simp; omega) (by omega) (by omega)).1
  obtain ⟨q0, q1, q2, qf⟩ := htx1.cells
  have hlt1 := lt_of_block HZ1.out
  clear hkeep hg hv1 hx1 hD1 HT HH HZ htx htx1
  simp only [World.size_alloc] at hsz
  go_wp2_with fail
  go_region_with (first | (go_at_call 19; refine (duration_any p hp).mono ?_; rintro e wx ⟨rfl, rfl⟩) | (go_at_call 123; refine (truncate_any dx (ticksOf p) dx0 dx1 (ticks_cases p)).mono ?_; rintro e w3 ⟨rfl, hb3⟩; have hz3 : TmAt w3 (w.heap.size + 1) 0 := HZ1.out.keep (hb3.block _ (by simp; omega)); obtain ⟨t0, t1, t2, tf⟩ := hz3.cells; have HZ3 := hid hz3; have HD3 := hid ((HD1.out.drewN 1).below hb3); clear hz3 hb3; unfold tmV))
  all_goals
    go_wp2_with fail
    have hL := layTm HZ3.out (.int .u64 ((dx - dx % ticksOf p) % 1000000000)) (.int .i64 ((dx - dx % ticksOf p) / 1000000000)) (.pointer none)
    have hge := HGE.out
    have HD4 := hid (((HD3.out.setNew (p := ⟨w.heap.size + 1, 0, none⟩) (by simp; omega) hge (.int .u64 ((dx - dx % ticksOf p) % 1000000000))).setNew (p := ⟨w.heap.size + 1, 1, none⟩) (by simp; omega) hge (.int .i64 ((dx - dx % ticksOf p) / 1000000000))).setNew (p := ⟨w.heap.size + 1, 2, none⟩) (by simp; omega) hge (.pointer none))
    generalize ((w3.setCell ⟨w.heap.size + 1, 0, none⟩ (.int .u64 ((dx - dx % ticksOf p) % 1000000000))).setCell ⟨w.heap.size + 1, 1, none⟩ (.int .i64 ((dx - dx % ticksOf p) / 1000000000))).setCell ⟨w.heap.size + 1, 2, none⟩ (.pointer none) = w4 at hL HD4 ⊢
    obtain ⟨u0, u1, u2, uf⟩ := TmAt.cells (x := dx - dx % ticksOf p) hL
    refine bodyPost_ret (v := .tuple #[tmV (dx - dx % ticksOf p), .nilIface]) (by simp [results, Tryz.results83, go_sem, u0, u1, u2, tmV]; try rfl) rfl ?_
    exact ⟨rfl, E1, HD4.out⟩
end
end Go.Proofs.YtejlokdcocacaaaGreatDoor
