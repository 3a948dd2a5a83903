/- impl's told. -/
import Derived.Test.YtejlokdcocacaaaGreatDoorDr
import Derived.Laws.Tables
namespace Go.Proofs.YtejlokdcocacaaaGreatDoor
open Go.RowKit

theorem info39 : (Tryz.prog.info? 39).map (·.size) = some 15 := by kernel_rfl

/-- An answer's cells. -/
def toldC (sm : Bool) (a b : ByteArray) (k n : Int) (fi : Bool) (fl fc : Int) (fr : Bool) : Array Value := #[.bool sm, .string a, .string b, .int .i64 k, .int .i64 0, .string ⟨#[]⟩, .int .i64 0, .int .u64 0, .float .f64 0, .bool false, .int .i64 n, .bool fi, .int .i64 fl, .int .i64 fc, .bool fr]

theorem toldC_one (sm : Bool) (a b : ByteArray) (k n : Int) (fi : Bool) (fl fc : Int) (fr : Bool) : (toldC sm a b k n fi fl fc fr).all (·.oneCell') = true := by simp [toldC, Value.oneCell']

/-- The answer's variable, at first. -/
def z39 : Obj := .cells (toldC false ⟨#[]⟩ ⟨#[]⟩ 0 0 false 0 0 false) 39
def askO (op pr df : Int) : Obj := .cells #[.int .i64 op, .int .i64 pr, .int .i64 df] 23

theorem store39 {w : World} {g : Nat} {old cs : Array Value} (hg : w.heap[g]? = some (.cells old 39 (0, 0))) (ho : old.size = 15) (hc : cs.size = 15) (h1 : cs.all (·.oneCell') = true) :
    (storeVar 39 ⟨g, 0, none⟩ (.agg cs)).run Tryz.prog w = .ok () (w.setRow g cs) :=
  run_storeVar_row w g 39 39 old cs hg (by rw [hc]; exact info39) (by rw [hc]; exact ho) h1

theorem res39 {fn : Func} {p : Tmp} (h : fn.results = #[.cell p 39]) {tmps : Array Value} {w : World} {g : Nat} {cs : Array Value} (hp : tmps.getD p undef = .pointer (some ⟨g, 0, none⟩)) (hg : w.heap[g]? = some (.cells cs 39 (0, 0))) (hc : cs.size = 15) :
    (results fn tmps).run Tryz.prog w = .ok (.agg cs) w :=
  results_cell_row h tmps w g 39 cs (0, 0) _ hp hg Tryz.underlying39 rfl (by rw [hc]; exact info39)

section
variable {w : World} {B D T E E0 : Nat} {w0 : World} {m a : MSt}

set_option maxHeartbeats 1600000 in
set_option maxRecDepth 100000 in
theorem told_next (h : Dc B D T E0 w0 m E w) (pr df : Int) :
    Calls Tryz.prog 13 #[.pointer (some ⟨D, 0, none⟩), .agg #[.int .i64 0, .int .i64 pr, .int .i64 df]] w fun e w' => e = .returned (.agg (toldC ((mNx m).has 1) ⟨#[]⟩ ⟨#[]⟩ 0 0 false 0 0 false)) ∧ ∃ E', Dc B D T E0 w0 (mNx m) E' w' := by
  have h1 := (h.alloc (askO 0 pr df)).alloc z39
  have hz : ((w.alloc (askO 0 pr df)).alloc z39).heap[w.heap.size + 1]? = some z39 := heap_alloc2_new _ _ _
  have HOK := hid ((adv_mNx m).ok h.ok)
  have ht := h1.next
  obtain ⟨b, hb⟩ : ∃ b, (mNx m).has 1 = b := ⟨_, rfl⟩
  rw [hb] at ht ⊢
  have HT := hid ht
  have HH := hid h1
  have HZ := hid hz
  have hs0 := h.st.size
  have hdl := h.dlt
  have hE : E < w.heap.size := by obtain ⟨es, hr, _⟩ := h.ex; exact hr.lt.2.2.1
  unfold askO z39 toldC at HT
  clear h h1 hz hb ht
  go_enter Tryz.func13, Tryz.ntmps13
  go_wp2_with fail
  refine HT.out.mono ?_
  rintro e w1 hx1
  obtain ⟨E1, v, rfl, hR, hD1, hkeep, hsz⟩ := HH.out.call HOK.out hx1
  subst hR
  obtain ⟨hz1, hge⟩ := hkeep (w.heap.size + 1) (by simp) (by omega) (by omega)
  have HZ1 := hid (hz1.trans HZ.out)
  have HGE := hid hge
  have HD1 := hid hD1
  clear hkeep hx1 hD1 HT HH HZ hz1 hge
  go_wp2_with (refine wpList_store_row (o := ⟨none, .store 39 (.tmp 4) (.tmp 28), _, _, _, _⟩) rfl 39 _ _ rfl (w.heap.size + 1) (toldC b ⟨#[]⟩ ⟨#[]⟩ 0 0 false 0 0 false) rfl rfl 39 _ HZ1.out info39 rfl (toldC_one _ _ _ _ _ _ _ _ _) ?_)
  refine bodyPost_ret (res39 rfl rfl (setRow_heap _ _ _ _ _ _ HZ1.out) rfl) rfl ?_
  exact ⟨rfl, E1, HD1.out.setRow (by omega) HGE.out _⟩
end
end Go.Proofs.YtejlokdcocacaaaGreatDoor
