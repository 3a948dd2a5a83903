/- told, for a field's bytes and a time's bytes. -/
import Derived.Test.YtejlokdcocacaaaGreatDoorKTold
namespace Go.Proofs.YtejlokdcocacaaaGreatDoor
open Go.RowKit Go.Proofs.YtejlokdcocacaaaGreatDoorW.PrintLast

/-- What is told of a time's bytes. -/
def toldT : TimeR → Array Value
  | .err f => toldC false ⟨#[]⟩ ⟨#[]⟩ 0 0 true f.line f.col false
  | .ok l => toldC (decide (l ≠ [])) ⟨l.toArray⟩ ⟨#[]⟩ 0 0 false 0 0 false

/-- What is told of a field. -/
def toldF : FieldR → Array Value
  | .err f => toldC false ⟨#[]⟩ ⟨#[]⟩ 0 0 true f.line f.col false
  | .none => toldC false ⟨#[]⟩ ⟨#[]⟩ 0 0 false 0 0 false
  | .some d => toldC true ⟨d.key.toArray⟩ ⟨d.raw.toArray⟩ (d.kind : Int) 0 false 0 0 false

theorem neq_nil (w : World) (a : Option Addr) (n c : Nat) : (binOp .neq 69 (.slice a n c) (.slice none 0 0)).run Tryz.prog w = .ok (.bool (!a.isNone)) w :=
  run_neq_slice_nil_any (P := Tryz.prog) w 69 5 a n c 0 0 Tryz.underlying69
theorem conv_nil (w : World) : (convert 69 9 (.slice none 0 0)).run Tryz.prog w = .ok (.string ⟨#[]⟩) w :=
  run_convert_bytes_nil w 69 5 Tryz.underlying69 Tryz.underlying5 0 0 9 Tryz.underlying9

theorem ErrIs.grow {B : Nat} {f : Flt} {w w' : World} {v : Value} (h : ErrIs B f w v) (k : Below w.heap.size w w') : ErrIs B f w' v := errIs_far h fun i hi _ _ => k.block i hi

theorem BytesIs.grow {w w' : World} {v : Value} {l : List UInt8} (h : BytesIs w v l) (k : Below w.heap.size w w') : BytesIs w' v l := by
  obtain ⟨b, o, c, rfl, h1, h2, h3, h4⟩ := h
  exact ⟨b, o, c, rfl, h1, h2, Nat.lt_of_lt_of_le h3 k.size, fun i hi => (k.cell (p := ⟨b, o + i, none⟩) h3).trans (h4 i hi)⟩

/-- What told asks of the error that it hands to fault. -/
def FaultOf (w : World) (v : Value) (fi : Bool) (fl fc : Int) : Prop := ∀ k, Calls Tryz.prog 30 #[v] (w.drewN k) fun e w' => e = .returned (.agg #[.bool fi, .int .i64 fl, .int .i64 fc, .bool false]) ∧ Below w.heap.size w w'

theorem faultOf_none (w : World) : FaultOf w .nilIface false 0 0 := fun k => (fault_none (w.drewN k)).mono fun _ _ ⟨he, hb⟩ => ⟨he, undrew hb⟩
theorem faultOf_some {w : World} {B : Nat} {f : Flt} {v : Value} (hg : Glob B w) (hE : ErrIs B f w v) : FaultOf w v true f.line f.col := fun k =>
  (fault_some (w := w.drewN k) (show Glob B (w.drewN k) from hg) (show ErrIs B f (w.drewN k) v from hE)).mono fun _ _ ⟨he, hb⟩ => ⟨he, undrew hb⟩

theorem time_data {B D : Nat} {r : TimeR} {w : World} {v : Value} (h : TimeIs B D r w v) (hg : Glob B w) : ∃ v1 v2 b s fi fl fc, v = .tuple #[v1, v2] ∧ toldT r = toldC b s ⟨#[]⟩ 0 0 fi fl fc false ∧
    (∀ w, (binOp .neq 69 v1 (.slice none 0 0)).run Tryz.prog w = .ok (.bool b) w) ∧ (∀ w9, Below w.heap.size w w9 → (convert 69 9 v1).run Tryz.prog w9 = .ok (.string s) w9) ∧ FaultOf w v2 fi fl fc := by
  cases r with
  | err f =>
    obtain ⟨v2, hE, rfl⟩ := h
    exact ⟨_, _, false, ⟨#[]⟩, true, f.line, f.col, rfl, rfl, fun w => neq_nil w none 0 0, fun w9 _ => conv_nil w9, faultOf_some hg hE⟩
  | ok l =>
    obtain ⟨v1, hv, rfl⟩ := h
    rcases hv with ⟨rfl, rfl⟩ | ⟨hl, hb⟩
    · exact ⟨_, _, false, ⟨#[]⟩, false, 0, 0, rfl, rfl, fun w => neq_nil w none 0 0, fun w9 _ => conv_nil w9, faultOf_none w⟩
    · have hbi := hb.is
      obtain ⟨b, o, c, rfl, _⟩ := hb
      refine ⟨_, _, true, ⟨l.toArray⟩, false, 0, 0, rfl, ?_, fun w => neq_nil w _ _ _, fun w9 hb9 => run_bytes_string (hbi.grow hb9), faultOf_none w⟩
      unfold toldT
      simp [hl]

theorem val_kind (m : MSt) : ∀ d x, mVal m = (d, .inr x) → x.1 ≤ 5 := by
  intro d x h
  unfold mVal at h
  split at h
  · simp only at h
    split at h
    · simp at h
    split at h
    · simp at h
    · simp only [Prod.mk.injEq, Sum.inr.injEq] at h
      rw [← h.2]; exact (by decide : (1:Nat) ≤ 5)
  split at h
  · simp only [Prod.mk.injEq, Sum.inr.injEq] at h
    rw [← h.2]; exact (by decide : (5:Nat) ≤ 5)
  split at h
  · simp only [Prod.mk.injEq, Sum.inr.injEq] at h
    rw [← h.2]
    unfold numOf
    split
    · exact (by decide : (2:Nat) ≤ 5)
    split
    · exact (by decide : (3:Nat) ≤ 5)
    · exact (by decide : (4:Nat) ≤ 5)
  · simp at h

theorem field_kind (m : MSt) : ∀ a d, mField m = (a, .some d) → d.kind ≤ 5 := by
  intro a d h
  unfold mField at h
  split at h
  · simp at h
  simp only at h
  split at h
  · simp at h
  split at h
  · simp at h
  split at h
  · simp at h
  split at h
  · simp at h
  · rename_i c x hv
    have hk := val_kind _ _ _ hv
    split at h
    · simp at h
    · simp only [Prod.mk.injEq, FieldR.some.injEq] at h
      rw [← h.2]; exact hk

theorem field_data {B : Nat} {r : FieldR} {w : World} {v : Value} (h : FieldIs B false r w v) (hg : Glob B w) (hk : ∀ d, r = .some d → d.kind ≤ 5) : ∃ v1 k v2 v3 b s1 s2 fi fl fc, v = .tuple #[v1, .int .u8 k, v2, v3] ∧ toldF r = toldC b s1 s2 k 0 fi fl fc false ∧ 0 ≤ k ∧ k ≤ 255 ∧
    (∀ w, (binOp .neq 69 v1 (.slice none 0 0)).run Tryz.prog w = .ok (.bool b) w) ∧ (∀ w9, Below w.heap.size w w9 → (convert 69 9 v1).run Tryz.prog w9 = .ok (.string s1) w9 ∧ (convert 69 9 v2).run Tryz.prog w9 = .ok (.string s2) w9) ∧ FaultOf w v3 fi fl fc := by
  cases r with
  | err f =>
    obtain ⟨v4, hE, rfl⟩ := h
    exact ⟨_, 0, _, _, false, ⟨#[]⟩, ⟨#[]⟩, true, f.line, f.col, rfl, rfl, by omega, by omega, fun w => neq_nil w none 0 0, fun w9 _ => ⟨conv_nil w9, conv_nil w9⟩, faultOf_some hg hE⟩
  | none =>
    have h2 : v = .tuple #[.slice none 0 0, .int .u8 0, .slice none 0 0, .nilIface] := h
    subst h2
    exact ⟨_, 0, _, _, false, ⟨#[]⟩, ⟨#[]⟩, false, 0, 0, rfl, rfl, by omega, by omega, fun w => neq_nil w none 0 0, fun w9 _ => ⟨conv_nil w9, conv_nil w9⟩, faultOf_none w⟩
  | some d =>
    obtain ⟨l1, l2, v1, v2, b1, b2, he, rfl⟩ := h
    obtain ⟨rfl, rfl⟩ := he rfl
    have hkd := hk d rfl
    have hv1 : ∃ b o c, v1 = .slice (some ⟨b, o, none⟩) d.key.length c := by
      obtain ⟨b, o, c, hv, _⟩ := b1
      exact ⟨b, o, c, hv⟩
    obtain ⟨b, o, c, hv1⟩ := hv1
    exact ⟨v1, d.kind, v2, _, true, ⟨d.key.toArray⟩, ⟨d.raw.toArray⟩, false, 0, 0, rfl, rfl, by omega, by omega, fun w => by rw [hv1]; exact neq_nil w _ _ _, fun w9 hb9 => ⟨run_bytes_string (b1.grow hb9), run_bytes_string (b2.grow hb9)⟩, faultOf_none w⟩

section
variable {w : World} {B D T E E0 : Nat} {w0 : World} {m : MSt}

set_option maxHeartbeats 1600000 in
set_option maxRecDepth 100000 in
theorem told_timeB (h : Dc B D T E0 w0 m E w) (hg : Glob B w) (pr df : Int) :
    Calls Tryz.prog 13 #[.pointer (some ⟨D, 0, none⟩), .agg #[.int .i64 5, .int .i64 pr, .int .i64 df]] w fun e w' => e = .returned (.agg (toldT (timeOf (toK 3 m).2 (toK 3 m).1).2)) ∧ ∃ E', Dc B D T E0 w0 (timeOf (toK 3 m).2 (toK 3 m).1).1 E' w' := by
  have h1 := (h.alloc (askO 5 pr df)).alloc z39
  have hz : ((w.alloc (askO 5 pr df)).alloc z39).heap[w.heap.size + 1]? = some z39 := heap_alloc2_new _ _ _
  have hgl := hg.grow (((Below.refl _ _).alloc (Nat.le_refl _) (askO 5 pr df)).alloc (by simp) z39)
  have HT := hid h1.time
  have HOK := hid ((adv_timeOf m).ok h.ok)
  have HZ := hid hz
  have HH := hid h1
  have HR := hid h1.rebase
  have HG := hid hgl
  have hs0 := h.st.size
  have hdl := h.dlt
  have hE : E < w.heap.size := by obtain ⟨es, hr, _⟩ := h.ex; exact hr.lt.2.2.1
  unfold askO z39 toldC at HT
  clear h h1 hz hg hgl
  generalize timeOf (toK 3 m).2 (toK 3 m).1 = r at *
  go_enter Tryz.func13, Tryz.ntmps13
  go_wp2_with fail
  refine HT.out.mono ?_
  rintro e w1 hx1
  obtain ⟨E1, v, rfl, hR, hd1, hkeep, hsz⟩ := HR.out.call HOK.out hx1
  have hgw := hd1.glob HG.out
  obtain ⟨v1, v2, b, s, fi, fl, fc, rfl, htold, hq, hcv, hf⟩ := time_data hR hgw
  have ho := hd1.old (g := w.heap.size + 1) (by simp) (by omega) (by omega)
  have HZ1 := hid (ho.1.trans HZ.out)
  have HGE := hid ho.2
  have HD1 := hid (HH.out.chain hd1)
  have HQ := hid hq
  have HCV := hid hcv
  have HF := hid hf
  have HTOLD := hid htold
  have hlt := lt_of_block HZ1.out
  simp only [World.size_alloc] at hsz
  clear ho hd1 HT HZ HH HR hkeep hx1 hR hgw hq hcv hf htold
  go_wp2_with fail
  refine region13_21 (G := w.heap.size + 1) (v18 := v1) (b18 := b) (s18 := s) (v19 := v2) (fi := fi) (fl := fl) (fc := fc) (fr := false) (fun _ _ _ _ _ h => h) rfl rfl rfl HQ.out rfl (fun w9 hb9 => HCV.out w9 hb9) (HF.out 1) (fun w9 hb9 => (hb9.block _ hlt).trans HZ1.out) rfl ?_
  intro w9 hb9
  have HD9 := hid (HD1.out.below hb9)
  have HZ9 := hid ((hb9.block _ hlt).trans HZ1.out)
  clear hb9 HD1 HZ1 HF HQ HCV
  simp only [putAll, Act.put, List.setIfInBounds_toArray, List.set_cons_zero, List.set_cons_succ]
  go_wp2_with fail
  refine bodyPost_ret (res39 rfl rfl (setRow_heap _ _ _ _ _ _ HZ9.out) rfl) rfl ?_
  rw [HTOLD.out]
  exact ⟨rfl, E1, HD9.out.setRow (by omega) HGE.out _⟩

set_option maxHeartbeats 1600000 in
set_option maxRecDepth 100000 in
theorem told_field (h : Dc B D T E0 w0 m E w) (hg : Glob B w) (pr df : Int) :
    Calls Tryz.prog 13 #[.pointer (some ⟨D, 0, none⟩), .agg #[.int .i64 4, .int .i64 pr, .int .i64 df]] w fun e w' => e = .returned (.agg (toldF (fieldOf (toK 2 m).2 (toK 2 m).1).2)) ∧ ∃ E', Dc B D T E0 w0 (fieldOf (toK 2 m).2 (toK 2 m).1).1 E' w' := by
  have h1 := (h.alloc (askO 4 pr df)).alloc z39
  have hz : ((w.alloc (askO 4 pr df)).alloc z39).heap[w.heap.size + 1]? = some z39 := heap_alloc2_new _ _ _
  have hgl := hg.grow (((Below.refl _ _).alloc (Nat.le_refl _) (askO 4 pr df)).alloc (by simp) z39)
  have hkk : ∀ d, (fieldOf (toK 2 m).2 (toK 2 m).1).2 = .some d → d.kind ≤ 5 := by
    intro d hd
    unfold fieldOf at hd
    split at hd
    · simp at hd
    · rcases hm : mField (toK 2 m).1 with ⟨a, r⟩
      rw [hm] at hd
      simp only at hd
      subst hd
      exact field_kind _ _ _ hm
  have HT := hid h1.field
  have HOK := hid ((adv_fieldOf m).ok h.ok)
  have HZ := hid hz
  have HH := hid h1
  have HR := hid h1.rebase
  have HG := hid hgl
  have HKK := hid hkk
  have hs0 := h.st.size
  have hdl := h.dlt
  have hE : E < w.heap.size := by obtain ⟨es, hr, _⟩ := h.ex; exact hr.lt.2.2.1
  unfold askO z39 toldC at HT
  clear h h1 hz hg hgl hkk
  generalize fieldOf (toK 2 m).2 (toK 2 m).1 = r at *
  go_enter Tryz.func13, Tryz.ntmps13
  go_wp2_with fail
  refine HT.out.mono ?_
  rintro e w1 hx1
  obtain ⟨E1, v, rfl, hR, hd1, hkeep, hsz⟩ := HR.out.call HOK.out hx1
  have hgw := hd1.glob HG.out
  obtain ⟨v1, k, v2, v3, b, s1, s2, fi, fl, fc, rfl, htold, k0, k1, hq, hcv, hf⟩ := field_data hR hgw HKK.out
  have ho := hd1.old (g := w.heap.size + 1) (by simp) (by omega) (by omega)
  have HZ1 := hid (ho.1.trans HZ.out)
  have HGE := hid ho.2
  have HD1 := hid (HH.out.chain hd1)
  have HQ := hid hq
  have HCV := hid hcv
  have HF := hid hf
  have HTOLD := hid htold
  have hlt := lt_of_block HZ1.out
  simp only [World.size_alloc] at hsz
  clear ho hd1 HT HZ HH HR hkeep hx1 hR hgw hq hcv hf htold
  go_wp2_with fail
  refine region13_18 (G := w.heap.size + 1) (v14 := v1) (b14 := b) (s14 := s1) (k15 := k) (v16 := v2) (s16 := s2) (v17 := v3) (fi := fi) (fl := fl) (fc := fc) (fr := false) (fun _ _ _ _ _ h => h) rfl rfl rfl HQ.out ⟨k0, k1⟩ rfl rfl rfl (fun w9 hb9 => HCV.out w9 hb9) (HF.out 1) (fun w9 hb9 => (hb9.block _ hlt).trans HZ1.out) rfl ?_
  intro w9 hb9
  have HD9 := hid (HD1.out.below hb9)
  have HZ9 := hid ((hb9.block _ hlt).trans HZ1.out)
  clear hb9 HD1 HZ1 HF HQ HCV
  simp only [putAll, Act.put, List.setIfInBounds_toArray, List.set_cons_zero, List.set_cons_succ]
  go_wp2_with fail
  refine bodyPost_ret (res39 rfl rfl (setRow_heap _ _ _ _ _ _ HZ9.out) rfl) rfl ?_
  rw [HTOLD.out]
  exact ⟨rfl, E1, HD9.out.setRow (by omega) HGE.out _⟩
end
end Go.Proofs.YtejlokdcocacaaaGreatDoor
