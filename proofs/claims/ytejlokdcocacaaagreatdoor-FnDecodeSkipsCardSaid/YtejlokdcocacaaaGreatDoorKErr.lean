/- The decoder's regions that end in a fault at the place of reading and draw their order, each over an abstract frame. Printed by gen_err.py. -/
import Derived.Test.YtejlokdcocacaaaGreatDoorKReg
import Derived.Test.YtejlokdcocacaaaGreatDoorKMdl
import Derived.Outline
namespace Go.Proofs.YtejlokdcocacaaaGreatDoor
open Go.RowKit Go.Proofs.YtejlokdcocacaaaGreatDoorW.PrintLast

section
variable {o : Oper} {v : Value} {ρ : Operand → Value} {w : World}
theorem x_assign {x : Operand} (ho : o.op = .assign x) (hx : ρ x = v) : (execOp ρ o).run Tryz.prog w = .ok (.value v) w := by
  cases o
  simp only at ho
  subst ho
  go_simp
theorem x_sub {x y : Operand} {m n : Int} (ho : o.op = .binOp .sub 3 x y 3) (hx : ρ x = .int .i64 m) (hy : ρ y = .int .i64 n) (hv : v = .int .i64 (IntKind.i64.wrap (m - n))) : (execOp ρ o).run Tryz.prog w = .ok (.value v) w := by
  cases o
  simp only at ho
  subst ho hv
  go_simp
end

theorem rep_two {w : World} {B D T E : Nat} {sk : Bool} {s : DSt} (h : Rep w B D T E sk s) : w.cell? ⟨D, 2, none⟩ = some (.int .i64 (s.r0 : Int)) ∧ w.cell? ⟨D, 3, none⟩ = some (.int .i64 (s.r1 : Int)) := by
  obtain ⟨C, ec, q1, q2, q3, q4, c0, c1, c2, c3, r⟩ := h.cells
  exact ⟨c2, c3⟩

noncomputable def ops59_8 : Array Oper := (Tryz.f59.body.bind (findRegion 8)).getD #[]

set_option maxHeartbeats 4000000 in
set_option maxRecDepth 100000 in
theorem region59_8 {Q : Exit → Act → World → Prop} {a : Act} {w : World} {B D T E : Nat} {sk : Bool} {m : MSt} {es : List UInt8}
    (hQ : ∀ (d : Tmp) (v : Value) (c : List PanicEntry) (a : Act) (w : World), Q (.panic c) (a.put (some d) v) w → Q (.panic c) a w) (hsz : a.tmps.size = 44)
    (h0 : a.eval (.tmp 0) = .pointer (some ⟨D, 0, none⟩)) (H : Rep w B D T E sk (m.d es)) (hk : m.Ok)
    (hend : ∀ w' v, Rep w' B D T E sk (m.broke.d es) → Stp D E w E w' → ErrIs B (m.flt m.off) w' v → Q .normal (putAll (putAll a [(16, .pointer (some ⟨D, 0, none⟩)), (17, .pointer (some ⟨D, 0, none⟩)), (18, .pointer (some ⟨D, 0, none⟩)), (19, .pointer (some ⟨D, 3, none⟩)), (20, .int .i64 (m.r1 : Int)), (21, .pointer (some ⟨D, 0, none⟩)), (22, .pointer (some ⟨D, 0, none⟩)), (23, .pointer (some ⟨D, 2, none⟩)), (24, .int .i64 (m.r0 : Int)), (25, .int .i64 ((m.r1 : Int) - (m.r0 : Int))), (26, .iface 167 (.pointer (some ⟨w.heap.size, 0, none⟩)))]) [(27, v), (2, v)]) w') :
    (Code.region 8 ops59_8 true).wp Tryz.prog Q a w := by
  generalize ho : ops59_8 = ops
  conv at ho => lhs; whnf
  subst ho
  have hB : B ≤ w.heap.size := by have := H.lt; have := H.bD; omega
  have hw : IntKind.i64.wrap ((m.r1 : Int) - (m.r0 : Int)) = (m.r1 : Int) - (m.r0 : Int) := by
    have h1 := H.le0; have h2 := H.le1; have h3 := H.small
    simp only [MSt.d] at h1 h2 h3
    rw [IntKind.wrap_i64]; omega
  refine start_ (n := 13) (S := fun w' => w'.cell? ⟨D, 2, none⟩ = some (.int .i64 (m.r0 : Int)) ∧ w'.cell? ⟨D, 3, none⟩ = some (.int .i64 (m.r1 : Int))) (ds := []) #[false, false, false, false, false, false, false, false, false, false, false, false, false] (by kernel_rfl) rfl rfl (rep_two (H.drewN 1)) (fun hHeld => ?_)
  refine take_ (i := 0) (N := some 16) (v := .pointer (some ⟨D, 0, none⟩)) #[true, false, false, false, false, false, false, false, false, false, false, false, false] rfl rfl (by kernel_rfl) (hQ 16 _) (y_of rfl fun w9 ⟨s2, s3⟩ => x_move rfl (by simp (disch := first | decide | ((repeat rw [put_size]); rw [hsz]; decide)) only [h0])) hHeld rfl ?_
  refine take_ (i := 1) (N := some 17) (v := .pointer (some ⟨D, 0, none⟩)) #[true, true, false, false, false, false, false, false, false, false, false, false, false] rfl rfl (by kernel_rfl) (hQ 17 _) (y_of rfl fun w9 ⟨s2, s3⟩ => x_move rfl (by simp (disch := first | decide | ((repeat rw [put_size]); rw [hsz]; decide)) only [put_ne, h0])) hHeld rfl ?_
  refine take_ (i := 2) (N := some 18) (v := .pointer (some ⟨D, 0, none⟩)) #[true, true, true, false, false, false, false, false, false, false, false, false, false] rfl rfl (by kernel_rfl) (hQ 18 _) (y_of rfl fun w9 ⟨s2, s3⟩ => x_nil rfl (by simp (disch := first | decide | ((repeat rw [put_size]); rw [hsz]; decide)) only [put_same])) hHeld rfl ?_
  refine take_ (i := 3) (N := some 19) (v := .pointer (some ⟨D, 3, none⟩)) #[true, true, true, true, false, false, false, false, false, false, false, false, false] rfl rfl (by kernel_rfl) (hQ 19 _) (y_of rfl fun w9 ⟨s2, s3⟩ => x_field 3 (by decide) rfl (by simp (disch := first | decide | ((repeat rw [put_size]); rw [hsz]; decide)) only [put_same])) hHeld rfl ?_
  refine take_ (i := 4) (N := some 20) (v := .int .i64 (m.r1 : Int)) #[true, true, true, true, true, false, false, false, false, false, false, false, false] rfl rfl (by kernel_rfl) (hQ 20 _) (y_of rfl fun w9 ⟨s2, s3⟩ => x_load (by decide) rfl (by simp (disch := first | decide | ((repeat rw [put_size]); rw [hsz]; decide)) only [put_same]) s3) hHeld rfl ?_
  refine take_ (i := 5) (N := some 21) (v := .pointer (some ⟨D, 0, none⟩)) #[true, true, true, true, true, true, false, false, false, false, false, false, false] rfl rfl (by kernel_rfl) (hQ 21 _) (y_of rfl fun w9 ⟨s2, s3⟩ => x_move rfl (by simp (disch := first | decide | ((repeat rw [put_size]); rw [hsz]; decide)) only [put_ne, h0])) hHeld rfl ?_
  refine take_ (i := 6) (N := some 22) (v := .pointer (some ⟨D, 0, none⟩)) #[true, true, true, true, true, true, true, false, false, false, false, false, false] rfl rfl (by kernel_rfl) (hQ 22 _) (y_of rfl fun w9 ⟨s2, s3⟩ => x_nil rfl (by simp (disch := first | decide | ((repeat rw [put_size]); rw [hsz]; decide)) only [put_same])) hHeld rfl ?_
  refine take_ (i := 7) (N := some 23) (v := .pointer (some ⟨D, 2, none⟩)) #[true, true, true, true, true, true, true, true, false, false, false, false, false] rfl rfl (by kernel_rfl) (hQ 23 _) (y_of rfl fun w9 ⟨s2, s3⟩ => x_field 2 (by decide) rfl (by simp (disch := first | decide | ((repeat rw [put_size]); rw [hsz]; decide)) only [put_same])) hHeld rfl ?_
  refine take_ (i := 8) (N := some 24) (v := .int .i64 (m.r0 : Int)) #[true, true, true, true, true, true, true, true, true, false, false, false, false] rfl rfl (by kernel_rfl) (hQ 24 _) (y_of rfl fun w9 ⟨s2, s3⟩ => x_load (by decide) rfl (by simp (disch := first | decide | ((repeat rw [put_size]); rw [hsz]; decide)) only [put_same]) s2) hHeld rfl ?_
  refine take_ (i := 9) (N := some 25) (v := .int .i64 ((m.r1 : Int) - (m.r0 : Int))) #[true, true, true, true, true, true, true, true, true, true, false, false, false] rfl rfl (by kernel_rfl) (hQ 25 _) (y_of rfl fun w9 ⟨s2, s3⟩ => x_sub (m := (m.r1 : Int)) (n := (m.r0 : Int)) rfl (by simp (disch := first | decide | ((repeat rw [put_size]); rw [hsz]; decide)) only [put_ne, put_same]) (by simp (disch := first | decide | ((repeat rw [put_size]); rw [hsz]; decide)) only [put_same]) (by rw [hw])) hHeld rfl ?_
  refine one_ (i := 10) (N := some 26) #[true, true, true, true, true, true, true, true, true, true, true, false, false] rfl rfl (by kernel_rfl) (by decide) ?_
  intro K hK
  refine goes_ Tryz.func58 rfl rfl #[.string ⟨#[101, 120, 112, 101, 99, 116, 101, 100, 32, 116, 97, 103, 32, 107, 101, 121, 32, 97, 102, 116, 101, 114, 32, 99, 111, 109, 109, 97, 59, 32, 103, 111, 116, 32, 101, 110, 100, 32, 111, 102, 32, 105, 110, 112, 117, 116]⟩] rfl rfl rfl (by simp only [List.map_toArray, List.map_cons, List.map_nil]; rfl) ?_
  refine (errorsNew_any _ _).mono ?_
  rintro e w1 ⟨rfl, rfl⟩
  have hr1 := (H.drewN 1).alloc (.cells #[.string ⟨#[101, 120, 112, 101, 99, 116, 101, 100, 32, 116, 97, 103, 32, 107, 101, 121, 32, 97, 102, 116, 101, 114, 32, 99, 111, 109, 109, 97, 59, 32, 103, 111, 116, 32, 101, 110, 100, 32, 111, 102, 32, 105, 110, 112, 117, 116]⟩] 169)
  refine ⟨_, rfl, hK _ _ (rep_two hr1) (fun hHeld1 => ?_)⟩
  clear hK K
  refine norm_ (a' := Act.put _ (some 26) (.iface 167 (.pointer (some ⟨w.heap.size, 0, none⟩)))) rfl ?_
  obtain ⟨A, hA⟩ : ∃ A, putAll a [(16, .pointer (some ⟨D, 0, none⟩)), (17, .pointer (some ⟨D, 0, none⟩)), (18, .pointer (some ⟨D, 0, none⟩)), (19, .pointer (some ⟨D, 3, none⟩)), (20, .int .i64 (m.r1 : Int)), (21, .pointer (some ⟨D, 0, none⟩)), (22, .pointer (some ⟨D, 0, none⟩)), (23, .pointer (some ⟨D, 2, none⟩)), (24, .int .i64 (m.r0 : Int)), (25, .int .i64 ((m.r1 : Int) - (m.r0 : Int))), (26, .iface 167 (.pointer (some ⟨w.heap.size, 0, none⟩)))] = A := ⟨_, rfl⟩
  refine norm_ (a' := A) hA ?_
  have hAs : A.tmps.size = 44 := by rw [← hA]; simp only [putAll, put_size, hsz]
  have hA0 : A.eval (.tmp 16) = .pointer (some ⟨D, 0, none⟩) := by rw [← hA]; simp only [putAll]; simp (disch := first | decide | ((repeat rw [put_size]); rw [hsz]; decide)) only [put_ne, put_same]
  have hA1 : A.eval (.tmp 25) = .int .i64 ((m.r1 : Int) - (m.r0 : Int)) := by rw [← hA]; simp only [putAll]; simp (disch := first | decide | ((repeat rw [put_size]); rw [hsz]; decide)) only [put_ne, put_same]
  have hA2 : A.eval (.tmp 26) = .iface 167 (.pointer (some ⟨w.heap.size, 0, none⟩)) := by rw [← hA]; exact put_same _ _ _ (by (repeat rw [put_size]); rw [hsz]; decide)
  refine one_ (i := 11) (N := some 27) #[true, true, true, true, true, true, true, true, true, true, true, true, false] rfl rfl (by kernel_rfl) (by decide) ?_
  intro K hK
  refine goes_ Tryz.func57 rfl rfl #[.pointer (some ⟨D, 0, none⟩), .int .i64 ((m.r1 : Int) - (m.r0 : Int)), .iface 167 (.pointer (some ⟨w.heap.size, 0, none⟩))] rfl rfl rfl ?ha ?_
  case ha => simp only [List.map_toArray, List.map_cons, List.map_nil, hA0, hA1, hA2]
  refine (syntaxErr_any hr1 hk m.off (by have := hr1.le0; simp only [MSt.d] at this ⊢; unfold MSt.off; omega) _ (by have := hr1.le0; simp only [MSt.d] at this; unfold MSt.off; omega) _ ⟨hB, _, heap_alloc_new (w.drewN 1) _⟩).mono ?_
  rintro e w2 ⟨E2, v, rfl, hE, hr2, st2⟩
  obtain rfl : E2 = E := st2.esc
  refine ⟨_, rfl, hK _ _ (rep_two hr2) (fun hHeld2 => ?_)⟩
  clear hK K
  refine norm_ (a' := Act.put A (some 27) v) rfl ?_
  refine take_ (i := 12) (N := some 2) (v := v) #[true, true, true, true, true, true, true, true, true, true, true, true, true] rfl rfl (by kernel_rfl) (hQ 2 _) (y_of rfl fun w9 ⟨s2, s3⟩ => x_assign rfl (by simp (disch := first | decide | ((repeat rw [put_size]); rw [hAs]; decide)) only [put_same])) hHeld2 rfl ?_
  refine done_ (by kernel_rfl) ?_
  rw [← hA]
  exact hend w2 v hr2 (((Stp.refl D _ w).drewN 1).alloc _ |>.trans st2) hE

noncomputable def ops59_10 : Array Oper := (Tryz.f59.body.bind (findRegion 10)).getD #[]

set_option maxHeartbeats 4000000 in
set_option maxRecDepth 100000 in
theorem region59_10 {Q : Exit → Act → World → Prop} {a : Act} {w : World} {B D T E : Nat} {sk : Bool} {m : MSt} {es : List UInt8}
    (hQ : ∀ (d : Tmp) (v : Value) (c : List PanicEntry) (a : Act) (w : World), Q (.panic c) (a.put (some d) v) w → Q (.panic c) a w) (hsz : a.tmps.size = 44)
    (h0 : a.eval (.tmp 0) = .pointer (some ⟨D, 0, none⟩)) (H : Rep w B D T E sk (m.d es)) (hk : m.Ok)
    (hend : ∀ w' v, Rep w' B D T E sk (m.broke.d es) → Stp D E w E w' → ErrIs B (m.flt m.off) w' v → Q .normal (putAll (putAll a [(32, .pointer (some ⟨D, 0, none⟩)), (33, .pointer (some ⟨D, 0, none⟩)), (34, .pointer (some ⟨D, 0, none⟩)), (35, .pointer (some ⟨D, 3, none⟩)), (36, .int .i64 (m.r1 : Int)), (37, .pointer (some ⟨D, 0, none⟩)), (38, .pointer (some ⟨D, 0, none⟩)), (39, .pointer (some ⟨D, 2, none⟩)), (40, .int .i64 (m.r0 : Int)), (41, .int .i64 ((m.r1 : Int) - (m.r0 : Int))), (42, .iface 167 (.pointer (some ⟨w.heap.size, 0, none⟩)))]) [(43, v), (2, v)]) w') :
    (Code.region 10 ops59_10 true).wp Tryz.prog Q a w := by
  generalize ho : ops59_10 = ops
  conv at ho => lhs; whnf
  subst ho
  have hB : B ≤ w.heap.size := by have := H.lt; have := H.bD; omega
  have hw : IntKind.i64.wrap ((m.r1 : Int) - (m.r0 : Int)) = (m.r1 : Int) - (m.r0 : Int) := by
    have h1 := H.le0; have h2 := H.le1; have h3 := H.small
    simp only [MSt.d] at h1 h2 h3
    rw [IntKind.wrap_i64]; omega
  refine start_ (n := 13) (S := fun w' => w'.cell? ⟨D, 2, none⟩ = some (.int .i64 (m.r0 : Int)) ∧ w'.cell? ⟨D, 3, none⟩ = some (.int .i64 (m.r1 : Int))) (ds := []) #[false, false, false, false, false, false, false, false, false, false, false, false, false] (by kernel_rfl) rfl rfl (rep_two (H.drewN 1)) (fun hHeld => ?_)
  refine take_ (i := 0) (N := some 32) (v := .pointer (some ⟨D, 0, none⟩)) #[true, false, false, false, false, false, false, false, false, false, false, false, false] rfl rfl (by kernel_rfl) (hQ 32 _) (y_of rfl fun w9 ⟨s2, s3⟩ => x_move rfl (by simp (disch := first | decide | ((repeat rw [put_size]); rw [hsz]; decide)) only [h0])) hHeld rfl ?_
  refine take_ (i := 1) (N := some 33) (v := .pointer (some ⟨D, 0, none⟩)) #[true, true, false, false, false, false, false, false, false, false, false, false, false] rfl rfl (by kernel_rfl) (hQ 33 _) (y_of rfl fun w9 ⟨s2, s3⟩ => x_move rfl (by simp (disch := first | decide | ((repeat rw [put_size]); rw [hsz]; decide)) only [put_ne, h0])) hHeld rfl ?_
  refine take_ (i := 2) (N := some 34) (v := .pointer (some ⟨D, 0, none⟩)) #[true, true, true, false, false, false, false, false, false, false, false, false, false] rfl rfl (by kernel_rfl) (hQ 34 _) (y_of rfl fun w9 ⟨s2, s3⟩ => x_nil rfl (by simp (disch := first | decide | ((repeat rw [put_size]); rw [hsz]; decide)) only [put_same])) hHeld rfl ?_
  refine take_ (i := 3) (N := some 35) (v := .pointer (some ⟨D, 3, none⟩)) #[true, true, true, true, false, false, false, false, false, false, false, false, false] rfl rfl (by kernel_rfl) (hQ 35 _) (y_of rfl fun w9 ⟨s2, s3⟩ => x_field 3 (by decide) rfl (by simp (disch := first | decide | ((repeat rw [put_size]); rw [hsz]; decide)) only [put_same])) hHeld rfl ?_
  refine take_ (i := 4) (N := some 36) (v := .int .i64 (m.r1 : Int)) #[true, true, true, true, true, false, false, false, false, false, false, false, false] rfl rfl (by kernel_rfl) (hQ 36 _) (y_of rfl fun w9 ⟨s2, s3⟩ => x_load (by decide) rfl (by simp (disch := first | decide | ((repeat rw [put_size]); rw [hsz]; decide)) only [put_same]) s3) hHeld rfl ?_
  refine take_ (i := 5) (N := some 37) (v := .pointer (some ⟨D, 0, none⟩)) #[true, true, true, true, true, true, false, false, false, false, false, false, false] rfl rfl (by kernel_rfl) (hQ 37 _) (y_of rfl fun w9 ⟨s2, s3⟩ => x_move rfl (by simp (disch := first | decide | ((repeat rw [put_size]); rw [hsz]; decide)) only [put_ne, h0])) hHeld rfl ?_
  refine take_ (i := 6) (N := some 38) (v := .pointer (some ⟨D, 0, none⟩)) #[true, true, true, true, true, true, true, false, false, false, false, false, false] rfl rfl (by kernel_rfl) (hQ 38 _) (y_of rfl fun w9 ⟨s2, s3⟩ => x_nil rfl (by simp (disch := first | decide | ((repeat rw [put_size]); rw [hsz]; decide)) only [put_same])) hHeld rfl ?_
  refine take_ (i := 7) (N := some 39) (v := .pointer (some ⟨D, 2, none⟩)) #[true, true, true, true, true, true, true, true, false, false, false, false, false] rfl rfl (by kernel_rfl) (hQ 39 _) (y_of rfl fun w9 ⟨s2, s3⟩ => x_field 2 (by decide) rfl (by simp (disch := first | decide | ((repeat rw [put_size]); rw [hsz]; decide)) only [put_same])) hHeld rfl ?_
  refine take_ (i := 8) (N := some 40) (v := .int .i64 (m.r0 : Int)) #[true, true, true, true, true, true, true, true, true, false, false, false, false] rfl rfl (by kernel_rfl) (hQ 40 _) (y_of rfl fun w9 ⟨s2, s3⟩ => x_load (by decide) rfl (by simp (disch := first | decide | ((repeat rw [put_size]); rw [hsz]; decide)) only [put_same]) s2) hHeld rfl ?_
  refine take_ (i := 9) (N := some 41) (v := .int .i64 ((m.r1 : Int) - (m.r0 : Int))) #[true, true, true, true, true, true, true, true, true, true, false, false, false] rfl rfl (by kernel_rfl) (hQ 41 _) (y_of rfl fun w9 ⟨s2, s3⟩ => x_sub (m := (m.r1 : Int)) (n := (m.r0 : Int)) rfl (by simp (disch := first | decide | ((repeat rw [put_size]); rw [hsz]; decide)) only [put_ne, put_same]) (by simp (disch := first | decide | ((repeat rw [put_size]); rw [hsz]; decide)) only [put_same]) (by rw [hw])) hHeld rfl ?_
  refine one_ (i := 10) (N := some 42) #[true, true, true, true, true, true, true, true, true, true, true, false, false] rfl rfl (by kernel_rfl) (by decide) ?_
  intro K hK
  refine goes_ Tryz.func58 rfl rfl #[.string ⟨#[101, 120, 112, 101, 99, 116, 101, 100, 32, 116, 97, 103, 32, 107, 101, 121, 32, 97, 102, 116, 101, 114, 32, 99, 111, 109, 109, 97, 59, 32, 103, 111, 116, 32, 119, 104, 105, 116, 101, 32, 115, 112, 97, 99, 101, 32, 105, 110, 115, 116, 101, 97, 100]⟩] rfl rfl rfl (by simp only [List.map_toArray, List.map_cons, List.map_nil]; rfl) ?_
  refine (errorsNew_any _ _).mono ?_
  rintro e w1 ⟨rfl, rfl⟩
  have hr1 := (H.drewN 1).alloc (.cells #[.string ⟨#[101, 120, 112, 101, 99, 116, 101, 100, 32, 116, 97, 103, 32, 107, 101, 121, 32, 97, 102, 116, 101, 114, 32, 99, 111, 109, 109, 97, 59, 32, 103, 111, 116, 32, 119, 104, 105, 116, 101, 32, 115, 112, 97, 99, 101, 32, 105, 110, 115, 116, 101, 97, 100]⟩] 169)
  refine ⟨_, rfl, hK _ _ (rep_two hr1) (fun hHeld1 => ?_)⟩
  clear hK K
  refine norm_ (a' := Act.put _ (some 42) (.iface 167 (.pointer (some ⟨w.heap.size, 0, none⟩)))) rfl ?_
  obtain ⟨A, hA⟩ : ∃ A, putAll a [(32, .pointer (some ⟨D, 0, none⟩)), (33, .pointer (some ⟨D, 0, none⟩)), (34, .pointer (some ⟨D, 0, none⟩)), (35, .pointer (some ⟨D, 3, none⟩)), (36, .int .i64 (m.r1 : Int)), (37, .pointer (some ⟨D, 0, none⟩)), (38, .pointer (some ⟨D, 0, none⟩)), (39, .pointer (some ⟨D, 2, none⟩)), (40, .int .i64 (m.r0 : Int)), (41, .int .i64 ((m.r1 : Int) - (m.r0 : Int))), (42, .iface 167 (.pointer (some ⟨w.heap.size, 0, none⟩)))] = A := ⟨_, rfl⟩
  refine norm_ (a' := A) hA ?_
  have hAs : A.tmps.size = 44 := by rw [← hA]; simp only [putAll, put_size, hsz]
  have hA0 : A.eval (.tmp 32) = .pointer (some ⟨D, 0, none⟩) := by rw [← hA]; simp only [putAll]; simp (disch := first | decide | ((repeat rw [put_size]); rw [hsz]; decide)) only [put_ne, put_same]
  have hA1 : A.eval (.tmp 41) = .int .i64 ((m.r1 : Int) - (m.r0 : Int)) := by rw [← hA]; simp only [putAll]; simp (disch := first | decide | ((repeat rw [put_size]); rw [hsz]; decide)) only [put_ne, put_same]
  have hA2 : A.eval (.tmp 42) = .iface 167 (.pointer (some ⟨w.heap.size, 0, none⟩)) := by rw [← hA]; exact put_same _ _ _ (by (repeat rw [put_size]); rw [hsz]; decide)
  refine one_ (i := 11) (N := some 43) #[true, true, true, true, true, true, true, true, true, true, true, true, false] rfl rfl (by kernel_rfl) (by decide) ?_
  intro K hK
  refine goes_ Tryz.func57 rfl rfl #[.pointer (some ⟨D, 0, none⟩), .int .i64 ((m.r1 : Int) - (m.r0 : Int)), .iface 167 (.pointer (some ⟨w.heap.size, 0, none⟩))] rfl rfl rfl ?ha ?_
  case ha => simp only [List.map_toArray, List.map_cons, List.map_nil, hA0, hA1, hA2]
  refine (syntaxErr_any hr1 hk m.off (by have := hr1.le0; simp only [MSt.d] at this ⊢; unfold MSt.off; omega) _ (by have := hr1.le0; simp only [MSt.d] at this; unfold MSt.off; omega) _ ⟨hB, _, heap_alloc_new (w.drewN 1) _⟩).mono ?_
  rintro e w2 ⟨E2, v, rfl, hE, hr2, st2⟩
  obtain rfl : E2 = E := st2.esc
  refine ⟨_, rfl, hK _ _ (rep_two hr2) (fun hHeld2 => ?_)⟩
  clear hK K
  refine norm_ (a' := Act.put A (some 43) v) rfl ?_
  refine take_ (i := 12) (N := some 2) (v := v) #[true, true, true, true, true, true, true, true, true, true, true, true, true] rfl rfl (by kernel_rfl) (hQ 2 _) (y_of rfl fun w9 ⟨s2, s3⟩ => x_assign rfl (by simp (disch := first | decide | ((repeat rw [put_size]); rw [hAs]; decide)) only [put_same])) hHeld2 rfl ?_
  refine done_ (by kernel_rfl) ?_
  rw [← hA]
  exact hend w2 v hr2 (((Stp.refl D _ w).drewN 1).alloc _ |>.trans st2) hE

noncomputable def ops34_14 : Array Oper := (Tryz.f34.body.bind (findRegion 14)).getD #[]

set_option maxHeartbeats 4000000 in
set_option maxRecDepth 100000 in
theorem region34_14 {Q : Exit → Act → World → Prop} {a : Act} {w : World} {B D T E : Nat} {sk : Bool} {m : MSt} {es : List UInt8}
    (hQ : ∀ (d : Tmp) (v : Value) (c : List PanicEntry) (a : Act) (w : World), Q (.panic c) (a.put (some d) v) w → Q (.panic c) a w) (hsz : a.tmps.size = 244)
    (h0 : a.eval (.tmp 0) = .pointer (some ⟨D, 0, none⟩)) (H : Rep w B D T E sk (m.d es)) (hk : m.Ok)
    (hend : ∀ w' v, Rep w' B D T E sk (m.broke.d es) → Stp D E w E w' → ErrIs B (m.flt m.off) w' v → Q .normal (putAll (putAll a [(55, .pointer (some ⟨D, 0, none⟩)), (56, .pointer (some ⟨D, 0, none⟩)), (57, .pointer (some ⟨D, 0, none⟩)), (58, .pointer (some ⟨D, 3, none⟩)), (59, .int .i64 (m.r1 : Int)), (60, .pointer (some ⟨D, 0, none⟩)), (61, .pointer (some ⟨D, 0, none⟩)), (62, .pointer (some ⟨D, 2, none⟩)), (63, .int .i64 (m.r0 : Int)), (64, .int .i64 ((m.r1 : Int) - (m.r0 : Int))), (65, .iface 167 (.pointer (some ⟨w.heap.size, 0, none⟩)))]) [(66, v), (2, .slice none 0 0), (3, .int .u8 0), (4, .slice none 0 0), (5, v)]) w') :
    (Code.region 14 ops34_14 true).wp Tryz.prog Q a w := by
  generalize ho : ops34_14 = ops
  conv at ho => lhs; whnf
  subst ho
  have hB : B ≤ w.heap.size := by have := H.lt; have := H.bD; omega
  have hw : IntKind.i64.wrap ((m.r1 : Int) - (m.r0 : Int)) = (m.r1 : Int) - (m.r0 : Int) := by
    have h1 := H.le0; have h2 := H.le1; have h3 := H.small
    simp only [MSt.d] at h1 h2 h3
    rw [IntKind.wrap_i64]; omega
  refine start_ (n := 16) (S := fun w' => w'.cell? ⟨D, 2, none⟩ = some (.int .i64 (m.r0 : Int)) ∧ w'.cell? ⟨D, 3, none⟩ = some (.int .i64 (m.r1 : Int))) (ds := []) #[false, false, false, false, false, false, false, false, false, false, false, false, false, false, false, false] (by kernel_rfl) rfl rfl (rep_two (H.drewN 1)) (fun hHeld => ?_)
  refine take_ (i := 0) (N := some 55) (v := .pointer (some ⟨D, 0, none⟩)) #[true, false, false, false, false, false, false, false, false, false, false, false, false, false, false, false] rfl rfl (by kernel_rfl) (hQ 55 _) (y_of rfl fun w9 ⟨s2, s3⟩ => x_move rfl (by simp (disch := first | decide | ((repeat rw [put_size]); rw [hsz]; decide)) only [h0])) hHeld rfl ?_
  refine take_ (i := 1) (N := some 56) (v := .pointer (some ⟨D, 0, none⟩)) #[true, true, false, false, false, false, false, false, false, false, false, false, false, false, false, false] rfl rfl (by kernel_rfl) (hQ 56 _) (y_of rfl fun w9 ⟨s2, s3⟩ => x_move rfl (by simp (disch := first | decide | ((repeat rw [put_size]); rw [hsz]; decide)) only [put_ne, h0])) hHeld rfl ?_
  refine take_ (i := 2) (N := some 57) (v := .pointer (some ⟨D, 0, none⟩)) #[true, true, true, false, false, false, false, false, false, false, false, false, false, false, false, false] rfl rfl (by kernel_rfl) (hQ 57 _) (y_of rfl fun w9 ⟨s2, s3⟩ => x_nil rfl (by simp (disch := first | decide | ((repeat rw [put_size]); rw [hsz]; decide)) only [put_same])) hHeld rfl ?_
  refine take_ (i := 3) (N := some 58) (v := .pointer (some ⟨D, 3, none⟩)) #[true, true, true, true, false, false, false, false, false, false, false, false, false, false, false, false] rfl rfl (by kernel_rfl) (hQ 58 _) (y_of rfl fun w9 ⟨s2, s3⟩ => x_field 3 (by decide) rfl (by simp (disch := first | decide | ((repeat rw [put_size]); rw [hsz]; decide)) only [put_same])) hHeld rfl ?_
  refine take_ (i := 4) (N := some 59) (v := .int .i64 (m.r1 : Int)) #[true, true, true, true, true, false, false, false, false, false, false, false, false, false, false, false] rfl rfl (by kernel_rfl) (hQ 59 _) (y_of rfl fun w9 ⟨s2, s3⟩ => x_load (by decide) rfl (by simp (disch := first | decide | ((repeat rw [put_size]); rw [hsz]; decide)) only [put_same]) s3) hHeld rfl ?_
  refine take_ (i := 5) (N := some 60) (v := .pointer (some ⟨D, 0, none⟩)) #[true, true, true, true, true, true, false, false, false, false, false, false, false, false, false, false] rfl rfl (by kernel_rfl) (hQ 60 _) (y_of rfl fun w9 ⟨s2, s3⟩ => x_move rfl (by simp (disch := first | decide | ((repeat rw [put_size]); rw [hsz]; decide)) only [put_ne, h0])) hHeld rfl ?_
  refine take_ (i := 6) (N := some 61) (v := .pointer (some ⟨D, 0, none⟩)) #[true, true, true, true, true, true, true, false, false, false, false, false, false, false, false, false] rfl rfl (by kernel_rfl) (hQ 61 _) (y_of rfl fun w9 ⟨s2, s3⟩ => x_nil rfl (by simp (disch := first | decide | ((repeat rw [put_size]); rw [hsz]; decide)) only [put_same])) hHeld rfl ?_
  refine take_ (i := 7) (N := some 62) (v := .pointer (some ⟨D, 2, none⟩)) #[true, true, true, true, true, true, true, true, false, false, false, false, false, false, false, false] rfl rfl (by kernel_rfl) (hQ 62 _) (y_of rfl fun w9 ⟨s2, s3⟩ => x_field 2 (by decide) rfl (by simp (disch := first | decide | ((repeat rw [put_size]); rw [hsz]; decide)) only [put_same])) hHeld rfl ?_
  refine take_ (i := 8) (N := some 63) (v := .int .i64 (m.r0 : Int)) #[true, true, true, true, true, true, true, true, true, false, false, false, false, false, false, false] rfl rfl (by kernel_rfl) (hQ 63 _) (y_of rfl fun w9 ⟨s2, s3⟩ => x_load (by decide) rfl (by simp (disch := first | decide | ((repeat rw [put_size]); rw [hsz]; decide)) only [put_same]) s2) hHeld rfl ?_
  refine take_ (i := 9) (N := some 64) (v := .int .i64 ((m.r1 : Int) - (m.r0 : Int))) #[true, true, true, true, true, true, true, true, true, true, false, false, false, false, false, false] rfl rfl (by kernel_rfl) (hQ 64 _) (y_of rfl fun w9 ⟨s2, s3⟩ => x_sub (m := (m.r1 : Int)) (n := (m.r0 : Int)) rfl (by simp (disch := first | decide | ((repeat rw [put_size]); rw [hsz]; decide)) only [put_ne, put_same]) (by simp (disch := first | decide | ((repeat rw [put_size]); rw [hsz]; decide)) only [put_same]) (by rw [hw])) hHeld rfl ?_
  refine one_ (i := 10) (N := some 65) #[true, true, true, true, true, true, true, true, true, true, true, false, false, false, false, false] rfl rfl (by kernel_rfl) (by decide) ?_
  intro K hK
  refine goes_ Tryz.func58 rfl rfl #[.string ⟨#[119, 97, 110, 116, 32, 39, 61, 39, 32, 97, 102, 116, 101, 114, 32, 102, 105, 101, 108, 100, 32, 107, 101, 121, 32, 46, 46, 44, 32, 102, 111, 117, 110, 100, 32, 101, 110, 100, 32, 111, 102, 32, 105, 110, 112, 117, 116]⟩] rfl rfl rfl (by simp only [List.map_toArray, List.map_cons, List.map_nil]; rfl) ?_
  refine (errorsNew_any _ _).mono ?_
  rintro e w1 ⟨rfl, rfl⟩
  have hr1 := (H.drewN 1).alloc (.cells #[.string ⟨#[119, 97, 110, 116, 32, 39, 61, 39, 32, 97, 102, 116, 101, 114, 32, 102, 105, 101, 108, 100, 32, 107, 101, 121, 32, 46, 46, 44, 32, 102, 111, 117, 110, 100, 32, 101, 110, 100, 32, 111, 102, 32, 105, 110, 112, 117, 116]⟩] 169)
  refine ⟨_, rfl, hK _ _ (rep_two hr1) (fun hHeld1 => ?_)⟩
  clear hK K
  refine norm_ (a' := Act.put _ (some 65) (.iface 167 (.pointer (some ⟨w.heap.size, 0, none⟩)))) rfl ?_
  obtain ⟨A, hA⟩ : ∃ A, putAll a [(55, .pointer (some ⟨D, 0, none⟩)), (56, .pointer (some ⟨D, 0, none⟩)), (57, .pointer (some ⟨D, 0, none⟩)), (58, .pointer (some ⟨D, 3, none⟩)), (59, .int .i64 (m.r1 : Int)), (60, .pointer (some ⟨D, 0, none⟩)), (61, .pointer (some ⟨D, 0, none⟩)), (62, .pointer (some ⟨D, 2, none⟩)), (63, .int .i64 (m.r0 : Int)), (64, .int .i64 ((m.r1 : Int) - (m.r0 : Int))), (65, .iface 167 (.pointer (some ⟨w.heap.size, 0, none⟩)))] = A := ⟨_, rfl⟩
  refine norm_ (a' := A) hA ?_
  have hAs : A.tmps.size = 244 := by rw [← hA]; simp only [putAll, put_size, hsz]
  have hA0 : A.eval (.tmp 55) = .pointer (some ⟨D, 0, none⟩) := by rw [← hA]; simp only [putAll]; simp (disch := first | decide | ((repeat rw [put_size]); rw [hsz]; decide)) only [put_ne, put_same]
  have hA1 : A.eval (.tmp 64) = .int .i64 ((m.r1 : Int) - (m.r0 : Int)) := by rw [← hA]; simp only [putAll]; simp (disch := first | decide | ((repeat rw [put_size]); rw [hsz]; decide)) only [put_ne, put_same]
  have hA2 : A.eval (.tmp 65) = .iface 167 (.pointer (some ⟨w.heap.size, 0, none⟩)) := by rw [← hA]; exact put_same _ _ _ (by (repeat rw [put_size]); rw [hsz]; decide)
  refine one_ (i := 11) (N := some 66) #[true, true, true, true, true, true, true, true, true, true, true, true, false, false, false, false] rfl rfl (by kernel_rfl) (by decide) ?_
  intro K hK
  refine goes_ Tryz.func57 rfl rfl #[.pointer (some ⟨D, 0, none⟩), .int .i64 ((m.r1 : Int) - (m.r0 : Int)), .iface 167 (.pointer (some ⟨w.heap.size, 0, none⟩))] rfl rfl rfl ?ha ?_
  case ha => simp only [List.map_toArray, List.map_cons, List.map_nil, hA0, hA1, hA2]
  refine (syntaxErr_any hr1 hk m.off (by have := hr1.le0; simp only [MSt.d] at this ⊢; unfold MSt.off; omega) _ (by have := hr1.le0; simp only [MSt.d] at this; unfold MSt.off; omega) _ ⟨hB, _, heap_alloc_new (w.drewN 1) _⟩).mono ?_
  rintro e w2 ⟨E2, v, rfl, hE, hr2, st2⟩
  obtain rfl : E2 = E := st2.esc
  refine ⟨_, rfl, hK _ _ (rep_two hr2) (fun hHeld2 => ?_)⟩
  clear hK K
  refine norm_ (a' := Act.put A (some 66) v) rfl ?_
  refine take_ (i := 12) (N := some 2) (v := .slice none 0 0) #[true, true, true, true, true, true, true, true, true, true, true, true, true, false, false, false] rfl rfl (by kernel_rfl) (hQ 2 _) (y_of rfl fun w9 ⟨s2, s3⟩ => x_assign rfl rfl) hHeld2 rfl ?_
  refine take_ (i := 13) (N := some 3) (v := .int .u8 0) #[true, true, true, true, true, true, true, true, true, true, true, true, true, true, false, false] rfl rfl (by kernel_rfl) (hQ 3 _) (y_of rfl fun w9 ⟨s2, s3⟩ => x_assign rfl rfl) hHeld2 rfl ?_
  refine take_ (i := 14) (N := some 4) (v := .slice none 0 0) #[true, true, true, true, true, true, true, true, true, true, true, true, true, true, true, false] rfl rfl (by kernel_rfl) (hQ 4 _) (y_of rfl fun w9 ⟨s2, s3⟩ => x_assign rfl rfl) hHeld2 rfl ?_
  refine take_ (i := 15) (N := some 5) (v := v) #[true, true, true, true, true, true, true, true, true, true, true, true, true, true, true, true] rfl rfl (by kernel_rfl) (hQ 5 _) (y_of rfl fun w9 ⟨s2, s3⟩ => x_assign rfl (by simp (disch := first | decide | ((repeat rw [put_size]); rw [hAs]; decide)) only [put_ne, put_same])) hHeld2 rfl ?_
  refine done_ (by kernel_rfl) ?_
  rw [← hA]
  exact hend w2 v hr2 (((Stp.refl D _ w).drewN 1).alloc _ |>.trans st2) hE

noncomputable def ops34_17 : Array Oper := (Tryz.f34.body.bind (findRegion 17)).getD #[]

set_option maxHeartbeats 4000000 in
set_option maxRecDepth 100000 in
theorem region34_17 {Q : Exit → Act → World → Prop} {a : Act} {w : World} {B D T E : Nat} {sk : Bool} {m : MSt} {es : List UInt8}
    (hQ : ∀ (d : Tmp) (v : Value) (c : List PanicEntry) (a : Act) (w : World), Q (.panic c) (a.put (some d) v) w → Q (.panic c) a w) (hsz : a.tmps.size = 244)
    (h0 : a.eval (.tmp 0) = .pointer (some ⟨D, 0, none⟩)) (H : Rep w B D T E sk (m.d es)) (hk : m.Ok)
    (hend : ∀ w' v, Rep w' B D T E sk (m.broke.d es) → Stp D E w E w' → ErrIs B (m.flt m.off) w' v → Q .normal (putAll (putAll a [(71, .pointer (some ⟨D, 0, none⟩)), (72, .pointer (some ⟨D, 0, none⟩)), (73, .pointer (some ⟨D, 0, none⟩)), (74, .pointer (some ⟨D, 3, none⟩)), (75, .int .i64 (m.r1 : Int)), (76, .pointer (some ⟨D, 0, none⟩)), (77, .pointer (some ⟨D, 0, none⟩)), (78, .pointer (some ⟨D, 2, none⟩)), (79, .int .i64 (m.r0 : Int)), (80, .int .i64 ((m.r1 : Int) - (m.r0 : Int))), (81, .iface 167 (.pointer (some ⟨w.heap.size, 0, none⟩)))]) [(82, v), (2, .slice none 0 0), (3, .int .u8 0), (4, .slice none 0 0), (5, v)]) w') :
    (Code.region 17 ops34_17 true).wp Tryz.prog Q a w := by
  generalize ho : ops34_17 = ops
  conv at ho => lhs; whnf
  subst ho
  have hB : B ≤ w.heap.size := by have := H.lt; have := H.bD; omega
  have hw : IntKind.i64.wrap ((m.r1 : Int) - (m.r0 : Int)) = (m.r1 : Int) - (m.r0 : Int) := by
    have h1 := H.le0; have h2 := H.le1; have h3 := H.small
    simp only [MSt.d] at h1 h2 h3
    rw [IntKind.wrap_i64]; omega
  refine start_ (n := 16) (S := fun w' => w'.cell? ⟨D, 2, none⟩ = some (.int .i64 (m.r0 : Int)) ∧ w'.cell? ⟨D, 3, none⟩ = some (.int .i64 (m.r1 : Int))) (ds := []) #[false, false, false, false, false, false, false, false, false, false, false, false, false, false, false, false] (by kernel_rfl) rfl rfl (rep_two (H.drewN 1)) (fun hHeld => ?_)
  refine take_ (i := 0) (N := some 71) (v := .pointer (some ⟨D, 0, none⟩)) #[true, false, false, false, false, false, false, false, false, false, false, false, false, false, false, false] rfl rfl (by kernel_rfl) (hQ 71 _) (y_of rfl fun w9 ⟨s2, s3⟩ => x_move rfl (by simp (disch := first | decide | ((repeat rw [put_size]); rw [hsz]; decide)) only [h0])) hHeld rfl ?_
  refine take_ (i := 1) (N := some 72) (v := .pointer (some ⟨D, 0, none⟩)) #[true, true, false, false, false, false, false, false, false, false, false, false, false, false, false, false] rfl rfl (by kernel_rfl) (hQ 72 _) (y_of rfl fun w9 ⟨s2, s3⟩ => x_move rfl (by simp (disch := first | decide | ((repeat rw [put_size]); rw [hsz]; decide)) only [put_ne, h0])) hHeld rfl ?_
  refine take_ (i := 2) (N := some 73) (v := .pointer (some ⟨D, 0, none⟩)) #[true, true, true, false, false, false, false, false, false, false, false, false, false, false, false, false] rfl rfl (by kernel_rfl) (hQ 73 _) (y_of rfl fun w9 ⟨s2, s3⟩ => x_nil rfl (by simp (disch := first | decide | ((repeat rw [put_size]); rw [hsz]; decide)) only [put_same])) hHeld rfl ?_
  refine take_ (i := 3) (N := some 74) (v := .pointer (some ⟨D, 3, none⟩)) #[true, true, true, true, false, false, false, false, false, false, false, false, false, false, false, false] rfl rfl (by kernel_rfl) (hQ 74 _) (y_of rfl fun w9 ⟨s2, s3⟩ => x_field 3 (by decide) rfl (by simp (disch := first | decide | ((repeat rw [put_size]); rw [hsz]; decide)) only [put_same])) hHeld rfl ?_
  refine take_ (i := 4) (N := some 75) (v := .int .i64 (m.r1 : Int)) #[true, true, true, true, true, false, false, false, false, false, false, false, false, false, false, false] rfl rfl (by kernel_rfl) (hQ 75 _) (y_of rfl fun w9 ⟨s2, s3⟩ => x_load (by decide) rfl (by simp (disch := first | decide | ((repeat rw [put_size]); rw [hsz]; decide)) only [put_same]) s3) hHeld rfl ?_
  refine take_ (i := 5) (N := some 76) (v := .pointer (some ⟨D, 0, none⟩)) #[true, true, true, true, true, true, false, false, false, false, false, false, false, false, false, false] rfl rfl (by kernel_rfl) (hQ 76 _) (y_of rfl fun w9 ⟨s2, s3⟩ => x_move rfl (by simp (disch := first | decide | ((repeat rw [put_size]); rw [hsz]; decide)) only [put_ne, h0])) hHeld rfl ?_
  refine take_ (i := 6) (N := some 77) (v := .pointer (some ⟨D, 0, none⟩)) #[true, true, true, true, true, true, true, false, false, false, false, false, false, false, false, false] rfl rfl (by kernel_rfl) (hQ 77 _) (y_of rfl fun w9 ⟨s2, s3⟩ => x_nil rfl (by simp (disch := first | decide | ((repeat rw [put_size]); rw [hsz]; decide)) only [put_same])) hHeld rfl ?_
  refine take_ (i := 7) (N := some 78) (v := .pointer (some ⟨D, 2, none⟩)) #[true, true, true, true, true, true, true, true, false, false, false, false, false, false, false, false] rfl rfl (by kernel_rfl) (hQ 78 _) (y_of rfl fun w9 ⟨s2, s3⟩ => x_field 2 (by decide) rfl (by simp (disch := first | decide | ((repeat rw [put_size]); rw [hsz]; decide)) only [put_same])) hHeld rfl ?_
  refine take_ (i := 8) (N := some 79) (v := .int .i64 (m.r0 : Int)) #[true, true, true, true, true, true, true, true, true, false, false, false, false, false, false, false] rfl rfl (by kernel_rfl) (hQ 79 _) (y_of rfl fun w9 ⟨s2, s3⟩ => x_load (by decide) rfl (by simp (disch := first | decide | ((repeat rw [put_size]); rw [hsz]; decide)) only [put_same]) s2) hHeld rfl ?_
  refine take_ (i := 9) (N := some 80) (v := .int .i64 ((m.r1 : Int) - (m.r0 : Int))) #[true, true, true, true, true, true, true, true, true, true, false, false, false, false, false, false] rfl rfl (by kernel_rfl) (hQ 80 _) (y_of rfl fun w9 ⟨s2, s3⟩ => x_sub (m := (m.r1 : Int)) (n := (m.r0 : Int)) rfl (by simp (disch := first | decide | ((repeat rw [put_size]); rw [hsz]; decide)) only [put_ne, put_same]) (by simp (disch := first | decide | ((repeat rw [put_size]); rw [hsz]; decide)) only [put_same]) (by rw [hw])) hHeld rfl ?_
  refine one_ (i := 10) (N := some 81) #[true, true, true, true, true, true, true, true, true, true, true, false, false, false, false, false] rfl rfl (by kernel_rfl) (by decide) ?_
  intro K hK
  refine goes_ Tryz.func58 rfl rfl #[.string ⟨#[119, 97, 110, 116, 32, 39, 61, 39, 32, 97, 102, 116, 101, 114, 32, 102, 105, 101, 108, 100, 32, 107, 101, 121, 32, 46, 46, 44, 32, 102, 111, 117, 110, 100, 32, 46, 46]⟩] rfl rfl rfl (by simp only [List.map_toArray, List.map_cons, List.map_nil]; rfl) ?_
  refine (errorsNew_any _ _).mono ?_
  rintro e w1 ⟨rfl, rfl⟩
  have hr1 := (H.drewN 1).alloc (.cells #[.string ⟨#[119, 97, 110, 116, 32, 39, 61, 39, 32, 97, 102, 116, 101, 114, 32, 102, 105, 101, 108, 100, 32, 107, 101, 121, 32, 46, 46, 44, 32, 102, 111, 117, 110, 100, 32, 46, 46]⟩] 169)
  refine ⟨_, rfl, hK _ _ (rep_two hr1) (fun hHeld1 => ?_)⟩
  clear hK K
  refine norm_ (a' := Act.put _ (some 81) (.iface 167 (.pointer (some ⟨w.heap.size, 0, none⟩)))) rfl ?_
  obtain ⟨A, hA⟩ : ∃ A, putAll a [(71, .pointer (some ⟨D, 0, none⟩)), (72, .pointer (some ⟨D, 0, none⟩)), (73, .pointer (some ⟨D, 0, none⟩)), (74, .pointer (some ⟨D, 3, none⟩)), (75, .int .i64 (m.r1 : Int)), (76, .pointer (some ⟨D, 0, none⟩)), (77, .pointer (some ⟨D, 0, none⟩)), (78, .pointer (some ⟨D, 2, none⟩)), (79, .int .i64 (m.r0 : Int)), (80, .int .i64 ((m.r1 : Int) - (m.r0 : Int))), (81, .iface 167 (.pointer (some ⟨w.heap.size, 0, none⟩)))] = A := ⟨_, rfl⟩
  refine norm_ (a' := A) hA ?_
  have hAs : A.tmps.size = 244 := by rw [← hA]; simp only [putAll, put_size, hsz]
  have hA0 : A.eval (.tmp 71) = .pointer (some ⟨D, 0, none⟩) := by rw [← hA]; simp only [putAll]; simp (disch := first | decide | ((repeat rw [put_size]); rw [hsz]; decide)) only [put_ne, put_same]
  have hA1 : A.eval (.tmp 80) = .int .i64 ((m.r1 : Int) - (m.r0 : Int)) := by rw [← hA]; simp only [putAll]; simp (disch := first | decide | ((repeat rw [put_size]); rw [hsz]; decide)) only [put_ne, put_same]
  have hA2 : A.eval (.tmp 81) = .iface 167 (.pointer (some ⟨w.heap.size, 0, none⟩)) := by rw [← hA]; exact put_same _ _ _ (by (repeat rw [put_size]); rw [hsz]; decide)
  refine one_ (i := 11) (N := some 82) #[true, true, true, true, true, true, true, true, true, true, true, true, false, false, false, false] rfl rfl (by kernel_rfl) (by decide) ?_
  intro K hK
  refine goes_ Tryz.func57 rfl rfl #[.pointer (some ⟨D, 0, none⟩), .int .i64 ((m.r1 : Int) - (m.r0 : Int)), .iface 167 (.pointer (some ⟨w.heap.size, 0, none⟩))] rfl rfl rfl ?ha ?_
  case ha => simp only [List.map_toArray, List.map_cons, List.map_nil, hA0, hA1, hA2]
  refine (syntaxErr_any hr1 hk m.off (by have := hr1.le0; simp only [MSt.d] at this ⊢; unfold MSt.off; omega) _ (by have := hr1.le0; simp only [MSt.d] at this; unfold MSt.off; omega) _ ⟨hB, _, heap_alloc_new (w.drewN 1) _⟩).mono ?_
  rintro e w2 ⟨E2, v, rfl, hE, hr2, st2⟩
  obtain rfl : E2 = E := st2.esc
  refine ⟨_, rfl, hK _ _ (rep_two hr2) (fun hHeld2 => ?_)⟩
  clear hK K
  refine norm_ (a' := Act.put A (some 82) v) rfl ?_
  refine take_ (i := 12) (N := some 2) (v := .slice none 0 0) #[true, true, true, true, true, true, true, true, true, true, true, true, true, false, false, false] rfl rfl (by kernel_rfl) (hQ 2 _) (y_of rfl fun w9 ⟨s2, s3⟩ => x_assign rfl rfl) hHeld2 rfl ?_
  refine take_ (i := 13) (N := some 3) (v := .int .u8 0) #[true, true, true, true, true, true, true, true, true, true, true, true, true, true, false, false] rfl rfl (by kernel_rfl) (hQ 3 _) (y_of rfl fun w9 ⟨s2, s3⟩ => x_assign rfl rfl) hHeld2 rfl ?_
  refine take_ (i := 14) (N := some 4) (v := .slice none 0 0) #[true, true, true, true, true, true, true, true, true, true, true, true, true, true, true, false] rfl rfl (by kernel_rfl) (hQ 4 _) (y_of rfl fun w9 ⟨s2, s3⟩ => x_assign rfl rfl) hHeld2 rfl ?_
  refine take_ (i := 15) (N := some 5) (v := v) #[true, true, true, true, true, true, true, true, true, true, true, true, true, true, true, true] rfl rfl (by kernel_rfl) (hQ 5 _) (y_of rfl fun w9 ⟨s2, s3⟩ => x_assign rfl (by simp (disch := first | decide | ((repeat rw [put_size]); rw [hAs]; decide)) only [put_ne, put_same])) hHeld2 rfl ?_
  refine done_ (by kernel_rfl) ?_
  rw [← hA]
  exact hend w2 v hr2 (((Stp.refl D _ w).drewN 1).alloc _ |>.trans st2) hE

noncomputable def ops34_20 : Array Oper := (Tryz.f34.body.bind (findRegion 20)).getD #[]

set_option maxHeartbeats 4000000 in
set_option maxRecDepth 100000 in
theorem region34_20 {Q : Exit → Act → World → Prop} {a : Act} {w : World} {B D T E : Nat} {sk : Bool} {m : MSt} {es : List UInt8}
    (hQ : ∀ (d : Tmp) (v : Value) (c : List PanicEntry) (a : Act) (w : World), Q (.panic c) (a.put (some d) v) w → Q (.panic c) a w) (hsz : a.tmps.size = 244)
    (h0 : a.eval (.tmp 0) = .pointer (some ⟨D, 0, none⟩)) (H : Rep w B D T E sk (m.d es)) (hk : m.Ok)
    (hend : ∀ w' v, Rep w' B D T E sk (m.broke.d es) → Stp D E w E w' → ErrIs B (m.flt m.off) w' v → Q .normal (putAll (putAll a [(88, .pointer (some ⟨D, 0, none⟩)), (89, .pointer (some ⟨D, 0, none⟩)), (90, .pointer (some ⟨D, 0, none⟩)), (91, .pointer (some ⟨D, 3, none⟩)), (92, .int .i64 (m.r1 : Int)), (93, .pointer (some ⟨D, 0, none⟩)), (94, .pointer (some ⟨D, 0, none⟩)), (95, .pointer (some ⟨D, 2, none⟩)), (96, .int .i64 (m.r0 : Int)), (97, .int .i64 ((m.r1 : Int) - (m.r0 : Int))), (98, .iface 167 (.pointer (some ⟨w.heap.size, 0, none⟩)))]) [(99, v), (2, .slice none 0 0), (3, .int .u8 0), (4, .slice none 0 0), (5, v)]) w') :
    (Code.region 20 ops34_20 true).wp Tryz.prog Q a w := by
  generalize ho : ops34_20 = ops
  conv at ho => lhs; whnf
  subst ho
  have hB : B ≤ w.heap.size := by have := H.lt; have := H.bD; omega
  have hw : IntKind.i64.wrap ((m.r1 : Int) - (m.r0 : Int)) = (m.r1 : Int) - (m.r0 : Int) := by
    have h1 := H.le0; have h2 := H.le1; have h3 := H.small
    simp only [MSt.d] at h1 h2 h3
    rw [IntKind.wrap_i64]; omega
  refine start_ (n := 16) (S := fun w' => w'.cell? ⟨D, 2, none⟩ = some (.int .i64 (m.r0 : Int)) ∧ w'.cell? ⟨D, 3, none⟩ = some (.int .i64 (m.r1 : Int))) (ds := []) #[false, false, false, false, false, false, false, false, false, false, false, false, false, false, false, false] (by kernel_rfl) rfl rfl (rep_two (H.drewN 1)) (fun hHeld => ?_)
  refine take_ (i := 0) (N := some 88) (v := .pointer (some ⟨D, 0, none⟩)) #[true, false, false, false, false, false, false, false, false, false, false, false, false, false, false, false] rfl rfl (by kernel_rfl) (hQ 88 _) (y_of rfl fun w9 ⟨s2, s3⟩ => x_move rfl (by simp (disch := first | decide | ((repeat rw [put_size]); rw [hsz]; decide)) only [h0])) hHeld rfl ?_
  refine take_ (i := 1) (N := some 89) (v := .pointer (some ⟨D, 0, none⟩)) #[true, true, false, false, false, false, false, false, false, false, false, false, false, false, false, false] rfl rfl (by kernel_rfl) (hQ 89 _) (y_of rfl fun w9 ⟨s2, s3⟩ => x_move rfl (by simp (disch := first | decide | ((repeat rw [put_size]); rw [hsz]; decide)) only [put_ne, h0])) hHeld rfl ?_
  refine take_ (i := 2) (N := some 90) (v := .pointer (some ⟨D, 0, none⟩)) #[true, true, true, false, false, false, false, false, false, false, false, false, false, false, false, false] rfl rfl (by kernel_rfl) (hQ 90 _) (y_of rfl fun w9 ⟨s2, s3⟩ => x_nil rfl (by simp (disch := first | decide | ((repeat rw [put_size]); rw [hsz]; decide)) only [put_same])) hHeld rfl ?_
  refine take_ (i := 3) (N := some 91) (v := .pointer (some ⟨D, 3, none⟩)) #[true, true, true, true, false, false, false, false, false, false, false, false, false, false, false, false] rfl rfl (by kernel_rfl) (hQ 91 _) (y_of rfl fun w9 ⟨s2, s3⟩ => x_field 3 (by decide) rfl (by simp (disch := first | decide | ((repeat rw [put_size]); rw [hsz]; decide)) only [put_same])) hHeld rfl ?_
  refine take_ (i := 4) (N := some 92) (v := .int .i64 (m.r1 : Int)) #[true, true, true, true, true, false, false, false, false, false, false, false, false, false, false, false] rfl rfl (by kernel_rfl) (hQ 92 _) (y_of rfl fun w9 ⟨s2, s3⟩ => x_load (by decide) rfl (by simp (disch := first | decide | ((repeat rw [put_size]); rw [hsz]; decide)) only [put_same]) s3) hHeld rfl ?_
  refine take_ (i := 5) (N := some 93) (v := .pointer (some ⟨D, 0, none⟩)) #[true, true, true, true, true, true, false, false, false, false, false, false, false, false, false, false] rfl rfl (by kernel_rfl) (hQ 93 _) (y_of rfl fun w9 ⟨s2, s3⟩ => x_move rfl (by simp (disch := first | decide | ((repeat rw [put_size]); rw [hsz]; decide)) only [put_ne, h0])) hHeld rfl ?_
  refine take_ (i := 6) (N := some 94) (v := .pointer (some ⟨D, 0, none⟩)) #[true, true, true, true, true, true, true, false, false, false, false, false, false, false, false, false] rfl rfl (by kernel_rfl) (hQ 94 _) (y_of rfl fun w9 ⟨s2, s3⟩ => x_nil rfl (by simp (disch := first | decide | ((repeat rw [put_size]); rw [hsz]; decide)) only [put_same])) hHeld rfl ?_
  refine take_ (i := 7) (N := some 95) (v := .pointer (some ⟨D, 2, none⟩)) #[true, true, true, true, true, true, true, true, false, false, false, false, false, false, false, false] rfl rfl (by kernel_rfl) (hQ 95 _) (y_of rfl fun w9 ⟨s2, s3⟩ => x_field 2 (by decide) rfl (by simp (disch := first | decide | ((repeat rw [put_size]); rw [hsz]; decide)) only [put_same])) hHeld rfl ?_
  refine take_ (i := 8) (N := some 96) (v := .int .i64 (m.r0 : Int)) #[true, true, true, true, true, true, true, true, true, false, false, false, false, false, false, false] rfl rfl (by kernel_rfl) (hQ 96 _) (y_of rfl fun w9 ⟨s2, s3⟩ => x_load (by decide) rfl (by simp (disch := first | decide | ((repeat rw [put_size]); rw [hsz]; decide)) only [put_same]) s2) hHeld rfl ?_
  refine take_ (i := 9) (N := some 97) (v := .int .i64 ((m.r1 : Int) - (m.r0 : Int))) #[true, true, true, true, true, true, true, true, true, true, false, false, false, false, false, false] rfl rfl (by kernel_rfl) (hQ 97 _) (y_of rfl fun w9 ⟨s2, s3⟩ => x_sub (m := (m.r1 : Int)) (n := (m.r0 : Int)) rfl (by simp (disch := first | decide | ((repeat rw [put_size]); rw [hsz]; decide)) only [put_ne, put_same]) (by simp (disch := first | decide | ((repeat rw [put_size]); rw [hsz]; decide)) only [put_same]) (by rw [hw])) hHeld rfl ?_
  refine one_ (i := 10) (N := some 98) #[true, true, true, true, true, true, true, true, true, true, true, false, false, false, false, false] rfl rfl (by kernel_rfl) (by decide) ?_
  intro K hK
  refine goes_ Tryz.func58 rfl rfl #[.string ⟨#[101, 120, 112, 101, 99, 116, 101, 100, 32, 102, 105, 101, 108, 100, 32, 118, 97, 108, 117, 101, 44, 32, 102, 111, 117, 110, 100, 32, 101, 110, 100, 32, 111, 102, 32, 105, 110, 112, 117, 116]⟩] rfl rfl rfl (by simp only [List.map_toArray, List.map_cons, List.map_nil]; rfl) ?_
  refine (errorsNew_any _ _).mono ?_
  rintro e w1 ⟨rfl, rfl⟩
  have hr1 := (H.drewN 1).alloc (.cells #[.string ⟨#[101, 120, 112, 101, 99, 116, 101, 100, 32, 102, 105, 101, 108, 100, 32, 118, 97, 108, 117, 101, 44, 32, 102, 111, 117, 110, 100, 32, 101, 110, 100, 32, 111, 102, 32, 105, 110, 112, 117, 116]⟩] 169)
  refine ⟨_, rfl, hK _ _ (rep_two hr1) (fun hHeld1 => ?_)⟩
  clear hK K
  refine norm_ (a' := Act.put _ (some 98) (.iface 167 (.pointer (some ⟨w.heap.size, 0, none⟩)))) rfl ?_
  obtain ⟨A, hA⟩ : ∃ A, putAll a [(88, .pointer (some ⟨D, 0, none⟩)), (89, .pointer (some ⟨D, 0, none⟩)), (90, .pointer (some ⟨D, 0, none⟩)), (91, .pointer (some ⟨D, 3, none⟩)), (92, .int .i64 (m.r1 : Int)), (93, .pointer (some ⟨D, 0, none⟩)), (94, .pointer (some ⟨D, 0, none⟩)), (95, .pointer (some ⟨D, 2, none⟩)), (96, .int .i64 (m.r0 : Int)), (97, .int .i64 ((m.r1 : Int) - (m.r0 : Int))), (98, .iface 167 (.pointer (some ⟨w.heap.size, 0, none⟩)))] = A := ⟨_, rfl⟩
  refine norm_ (a' := A) hA ?_
  have hAs : A.tmps.size = 244 := by rw [← hA]; simp only [putAll, put_size, hsz]
  have hA0 : A.eval (.tmp 88) = .pointer (some ⟨D, 0, none⟩) := by rw [← hA]; simp only [putAll]; simp (disch := first | decide | ((repeat rw [put_size]); rw [hsz]; decide)) only [put_ne, put_same]
  have hA1 : A.eval (.tmp 97) = .int .i64 ((m.r1 : Int) - (m.r0 : Int)) := by rw [← hA]; simp only [putAll]; simp (disch := first | decide | ((repeat rw [put_size]); rw [hsz]; decide)) only [put_ne, put_same]
  have hA2 : A.eval (.tmp 98) = .iface 167 (.pointer (some ⟨w.heap.size, 0, none⟩)) := by rw [← hA]; exact put_same _ _ _ (by (repeat rw [put_size]); rw [hsz]; decide)
  refine one_ (i := 11) (N := some 99) #[true, true, true, true, true, true, true, true, true, true, true, true, false, false, false, false] rfl rfl (by kernel_rfl) (by decide) ?_
  intro K hK
  refine goes_ Tryz.func57 rfl rfl #[.pointer (some ⟨D, 0, none⟩), .int .i64 ((m.r1 : Int) - (m.r0 : Int)), .iface 167 (.pointer (some ⟨w.heap.size, 0, none⟩))] rfl rfl rfl ?ha ?_
  case ha => simp only [List.map_toArray, List.map_cons, List.map_nil, hA0, hA1, hA2]
  refine (syntaxErr_any hr1 hk m.off (by have := hr1.le0; simp only [MSt.d] at this ⊢; unfold MSt.off; omega) _ (by have := hr1.le0; simp only [MSt.d] at this; unfold MSt.off; omega) _ ⟨hB, _, heap_alloc_new (w.drewN 1) _⟩).mono ?_
  rintro e w2 ⟨E2, v, rfl, hE, hr2, st2⟩
  obtain rfl : E2 = E := st2.esc
  refine ⟨_, rfl, hK _ _ (rep_two hr2) (fun hHeld2 => ?_)⟩
  clear hK K
  refine norm_ (a' := Act.put A (some 99) v) rfl ?_
  refine take_ (i := 12) (N := some 2) (v := .slice none 0 0) #[true, true, true, true, true, true, true, true, true, true, true, true, true, false, false, false] rfl rfl (by kernel_rfl) (hQ 2 _) (y_of rfl fun w9 ⟨s2, s3⟩ => x_assign rfl rfl) hHeld2 rfl ?_
  refine take_ (i := 13) (N := some 3) (v := .int .u8 0) #[true, true, true, true, true, true, true, true, true, true, true, true, true, true, false, false] rfl rfl (by kernel_rfl) (hQ 3 _) (y_of rfl fun w9 ⟨s2, s3⟩ => x_assign rfl rfl) hHeld2 rfl ?_
  refine take_ (i := 14) (N := some 4) (v := .slice none 0 0) #[true, true, true, true, true, true, true, true, true, true, true, true, true, true, true, false] rfl rfl (by kernel_rfl) (hQ 4 _) (y_of rfl fun w9 ⟨s2, s3⟩ => x_assign rfl rfl) hHeld2 rfl ?_
  refine take_ (i := 15) (N := some 5) (v := v) #[true, true, true, true, true, true, true, true, true, true, true, true, true, true, true, true] rfl rfl (by kernel_rfl) (hQ 5 _) (y_of rfl fun w9 ⟨s2, s3⟩ => x_assign rfl (by simp (disch := first | decide | ((repeat rw [put_size]); rw [hAs]; decide)) only [put_ne, put_same])) hHeld2 rfl ?_
  refine done_ (by kernel_rfl) ?_
  rw [← hA]
  exact hend w2 v hr2 (((Stp.refl D _ w).drewN 1).alloc _ |>.trans st2) hE

noncomputable def ops34_24 : Array Oper := (Tryz.f34.body.bind (findRegion 24)).getD #[]

set_option maxHeartbeats 4000000 in
set_option maxRecDepth 100000 in
theorem region34_24 {Q : Exit → Act → World → Prop} {a : Act} {w : World} {B D T E : Nat} {sk : Bool} {m : MSt} {es : List UInt8}
    (hQ : ∀ (d : Tmp) (v : Value) (c : List PanicEntry) (a : Act) (w : World), Q (.panic c) (a.put (some d) v) w → Q (.panic c) a w) (hsz : a.tmps.size = 244)
    (h0 : a.eval (.tmp 0) = .pointer (some ⟨D, 0, none⟩)) (H : Rep w B D T E sk (m.d es)) (hk : m.Ok)
    (hend : ∀ w' v, Rep w' B D T E sk (m.broke.d es) → Stp D E w E w' → ErrIs B (m.flt m.off) w' v → Q .normal (putAll (putAll a [(102, .pointer (some ⟨D, 0, none⟩)), (103, .pointer (some ⟨D, 0, none⟩)), (104, .pointer (some ⟨D, 0, none⟩)), (105, .pointer (some ⟨D, 3, none⟩)), (106, .int .i64 (m.r1 : Int)), (107, .pointer (some ⟨D, 0, none⟩)), (108, .pointer (some ⟨D, 0, none⟩)), (109, .pointer (some ⟨D, 2, none⟩)), (110, .int .i64 (m.r0 : Int)), (111, .int .i64 ((m.r1 : Int) - (m.r0 : Int))), (112, .iface 167 (.pointer (some ⟨w.heap.size, 0, none⟩)))]) [(113, v), (2, .slice none 0 0), (3, .int .u8 0), (4, .slice none 0 0), (5, v)]) w') :
    (Code.region 24 ops34_24 true).wp Tryz.prog Q a w := by
  generalize ho : ops34_24 = ops
  conv at ho => lhs; whnf
  subst ho
  have hB : B ≤ w.heap.size := by have := H.lt; have := H.bD; omega
  have hw : IntKind.i64.wrap ((m.r1 : Int) - (m.r0 : Int)) = (m.r1 : Int) - (m.r0 : Int) := by
    have h1 := H.le0; have h2 := H.le1; have h3 := H.small
    simp only [MSt.d] at h1 h2 h3
    rw [IntKind.wrap_i64]; omega
  refine start_ (n := 16) (S := fun w' => w'.cell? ⟨D, 2, none⟩ = some (.int .i64 (m.r0 : Int)) ∧ w'.cell? ⟨D, 3, none⟩ = some (.int .i64 (m.r1 : Int))) (ds := []) #[false, false, false, false, false, false, false, false, false, false, false, false, false, false, false, false] (by kernel_rfl) rfl rfl (rep_two (H.drewN 1)) (fun hHeld => ?_)
  refine take_ (i := 0) (N := some 102) (v := .pointer (some ⟨D, 0, none⟩)) #[true, false, false, false, false, false, false, false, false, false, false, false, false, false, false, false] rfl rfl (by kernel_rfl) (hQ 102 _) (y_of rfl fun w9 ⟨s2, s3⟩ => x_move rfl (by simp (disch := first | decide | ((repeat rw [put_size]); rw [hsz]; decide)) only [h0])) hHeld rfl ?_
  refine take_ (i := 1) (N := some 103) (v := .pointer (some ⟨D, 0, none⟩)) #[true, true, false, false, false, false, false, false, false, false, false, false, false, false, false, false] rfl rfl (by kernel_rfl) (hQ 103 _) (y_of rfl fun w9 ⟨s2, s3⟩ => x_move rfl (by simp (disch := first | decide | ((repeat rw [put_size]); rw [hsz]; decide)) only [put_ne, h0])) hHeld rfl ?_
  refine take_ (i := 2) (N := some 104) (v := .pointer (some ⟨D, 0, none⟩)) #[true, true, true, false, false, false, false, false, false, false, false, false, false, false, false, false] rfl rfl (by kernel_rfl) (hQ 104 _) (y_of rfl fun w9 ⟨s2, s3⟩ => x_nil rfl (by simp (disch := first | decide | ((repeat rw [put_size]); rw [hsz]; decide)) only [put_same])) hHeld rfl ?_
  refine take_ (i := 3) (N := some 105) (v := .pointer (some ⟨D, 3, none⟩)) #[true, true, true, true, false, false, false, false, false, false, false, false, false, false, false, false] rfl rfl (by kernel_rfl) (hQ 105 _) (y_of rfl fun w9 ⟨s2, s3⟩ => x_field 3 (by decide) rfl (by simp (disch := first | decide | ((repeat rw [put_size]); rw [hsz]; decide)) only [put_same])) hHeld rfl ?_
  refine take_ (i := 4) (N := some 106) (v := .int .i64 (m.r1 : Int)) #[true, true, true, true, true, false, false, false, false, false, false, false, false, false, false, false] rfl rfl (by kernel_rfl) (hQ 106 _) (y_of rfl fun w9 ⟨s2, s3⟩ => x_load (by decide) rfl (by simp (disch := first | decide | ((repeat rw [put_size]); rw [hsz]; decide)) only [put_same]) s3) hHeld rfl ?_
  refine take_ (i := 5) (N := some 107) (v := .pointer (some ⟨D, 0, none⟩)) #[true, true, true, true, true, true, false, false, false, false, false, false, false, false, false, false] rfl rfl (by kernel_rfl) (hQ 107 _) (y_of rfl fun w9 ⟨s2, s3⟩ => x_move rfl (by simp (disch := first | decide | ((repeat rw [put_size]); rw [hsz]; decide)) only [put_ne, h0])) hHeld rfl ?_
  refine take_ (i := 6) (N := some 108) (v := .pointer (some ⟨D, 0, none⟩)) #[true, true, true, true, true, true, true, false, false, false, false, false, false, false, false, false] rfl rfl (by kernel_rfl) (hQ 108 _) (y_of rfl fun w9 ⟨s2, s3⟩ => x_nil rfl (by simp (disch := first | decide | ((repeat rw [put_size]); rw [hsz]; decide)) only [put_same])) hHeld rfl ?_
  refine take_ (i := 7) (N := some 109) (v := .pointer (some ⟨D, 2, none⟩)) #[true, true, true, true, true, true, true, true, false, false, false, false, false, false, false, false] rfl rfl (by kernel_rfl) (hQ 109 _) (y_of rfl fun w9 ⟨s2, s3⟩ => x_field 2 (by decide) rfl (by simp (disch := first | decide | ((repeat rw [put_size]); rw [hsz]; decide)) only [put_same])) hHeld rfl ?_
  refine take_ (i := 8) (N := some 110) (v := .int .i64 (m.r0 : Int)) #[true, true, true, true, true, true, true, true, true, false, false, false, false, false, false, false] rfl rfl (by kernel_rfl) (hQ 110 _) (y_of rfl fun w9 ⟨s2, s3⟩ => x_load (by decide) rfl (by simp (disch := first | decide | ((repeat rw [put_size]); rw [hsz]; decide)) only [put_same]) s2) hHeld rfl ?_
  refine take_ (i := 9) (N := some 111) (v := .int .i64 ((m.r1 : Int) - (m.r0 : Int))) #[true, true, true, true, true, true, true, true, true, true, false, false, false, false, false, false] rfl rfl (by kernel_rfl) (hQ 111 _) (y_of rfl fun w9 ⟨s2, s3⟩ => x_sub (m := (m.r1 : Int)) (n := (m.r0 : Int)) rfl (by simp (disch := first | decide | ((repeat rw [put_size]); rw [hsz]; decide)) only [put_ne, put_same]) (by simp (disch := first | decide | ((repeat rw [put_size]); rw [hsz]; decide)) only [put_same]) (by rw [hw])) hHeld rfl ?_
  refine one_ (i := 10) (N := some 112) #[true, true, true, true, true, true, true, true, true, true, true, false, false, false, false, false] rfl rfl (by kernel_rfl) (by decide) ?_
  intro K hK
  refine goes_ Tryz.func58 rfl rfl #[.string ⟨#[102, 105, 101, 108, 100, 32, 118, 97, 108, 117, 101, 32, 104, 97, 115, 32, 117, 110, 114, 101, 99, 111, 103, 110, 105, 122, 101, 100, 32, 116, 121, 112, 101]⟩] rfl rfl rfl (by simp only [List.map_toArray, List.map_cons, List.map_nil]; rfl) ?_
  refine (errorsNew_any _ _).mono ?_
  rintro e w1 ⟨rfl, rfl⟩
  have hr1 := (H.drewN 1).alloc (.cells #[.string ⟨#[102, 105, 101, 108, 100, 32, 118, 97, 108, 117, 101, 32, 104, 97, 115, 32, 117, 110, 114, 101, 99, 111, 103, 110, 105, 122, 101, 100, 32, 116, 121, 112, 101]⟩] 169)
  refine ⟨_, rfl, hK _ _ (rep_two hr1) (fun hHeld1 => ?_)⟩
  clear hK K
  refine norm_ (a' := Act.put _ (some 112) (.iface 167 (.pointer (some ⟨w.heap.size, 0, none⟩)))) rfl ?_
  obtain ⟨A, hA⟩ : ∃ A, putAll a [(102, .pointer (some ⟨D, 0, none⟩)), (103, .pointer (some ⟨D, 0, none⟩)), (104, .pointer (some ⟨D, 0, none⟩)), (105, .pointer (some ⟨D, 3, none⟩)), (106, .int .i64 (m.r1 : Int)), (107, .pointer (some ⟨D, 0, none⟩)), (108, .pointer (some ⟨D, 0, none⟩)), (109, .pointer (some ⟨D, 2, none⟩)), (110, .int .i64 (m.r0 : Int)), (111, .int .i64 ((m.r1 : Int) - (m.r0 : Int))), (112, .iface 167 (.pointer (some ⟨w.heap.size, 0, none⟩)))] = A := ⟨_, rfl⟩
  refine norm_ (a' := A) hA ?_
  have hAs : A.tmps.size = 244 := by rw [← hA]; simp only [putAll, put_size, hsz]
  have hA0 : A.eval (.tmp 102) = .pointer (some ⟨D, 0, none⟩) := by rw [← hA]; simp only [putAll]; simp (disch := first | decide | ((repeat rw [put_size]); rw [hsz]; decide)) only [put_ne, put_same]
  have hA1 : A.eval (.tmp 111) = .int .i64 ((m.r1 : Int) - (m.r0 : Int)) := by rw [← hA]; simp only [putAll]; simp (disch := first | decide | ((repeat rw [put_size]); rw [hsz]; decide)) only [put_ne, put_same]
  have hA2 : A.eval (.tmp 112) = .iface 167 (.pointer (some ⟨w.heap.size, 0, none⟩)) := by rw [← hA]; exact put_same _ _ _ (by (repeat rw [put_size]); rw [hsz]; decide)
  refine one_ (i := 11) (N := some 113) #[true, true, true, true, true, true, true, true, true, true, true, true, false, false, false, false] rfl rfl (by kernel_rfl) (by decide) ?_
  intro K hK
  refine goes_ Tryz.func57 rfl rfl #[.pointer (some ⟨D, 0, none⟩), .int .i64 ((m.r1 : Int) - (m.r0 : Int)), .iface 167 (.pointer (some ⟨w.heap.size, 0, none⟩))] rfl rfl rfl ?ha ?_
  case ha => simp only [List.map_toArray, List.map_cons, List.map_nil, hA0, hA1, hA2]
  refine (syntaxErr_any hr1 hk m.off (by have := hr1.le0; simp only [MSt.d] at this ⊢; unfold MSt.off; omega) _ (by have := hr1.le0; simp only [MSt.d] at this; unfold MSt.off; omega) _ ⟨hB, _, heap_alloc_new (w.drewN 1) _⟩).mono ?_
  rintro e w2 ⟨E2, v, rfl, hE, hr2, st2⟩
  obtain rfl : E2 = E := st2.esc
  refine ⟨_, rfl, hK _ _ (rep_two hr2) (fun hHeld2 => ?_)⟩
  clear hK K
  refine norm_ (a' := Act.put A (some 113) v) rfl ?_
  refine take_ (i := 12) (N := some 2) (v := .slice none 0 0) #[true, true, true, true, true, true, true, true, true, true, true, true, true, false, false, false] rfl rfl (by kernel_rfl) (hQ 2 _) (y_of rfl fun w9 ⟨s2, s3⟩ => x_assign rfl rfl) hHeld2 rfl ?_
  refine take_ (i := 13) (N := some 3) (v := .int .u8 0) #[true, true, true, true, true, true, true, true, true, true, true, true, true, true, false, false] rfl rfl (by kernel_rfl) (hQ 3 _) (y_of rfl fun w9 ⟨s2, s3⟩ => x_assign rfl rfl) hHeld2 rfl ?_
  refine take_ (i := 14) (N := some 4) (v := .slice none 0 0) #[true, true, true, true, true, true, true, true, true, true, true, true, true, true, true, false] rfl rfl (by kernel_rfl) (hQ 4 _) (y_of rfl fun w9 ⟨s2, s3⟩ => x_assign rfl rfl) hHeld2 rfl ?_
  refine take_ (i := 15) (N := some 5) (v := v) #[true, true, true, true, true, true, true, true, true, true, true, true, true, true, true, true] rfl rfl (by kernel_rfl) (hQ 5 _) (y_of rfl fun w9 ⟨s2, s3⟩ => x_assign rfl (by simp (disch := first | decide | ((repeat rw [put_size]); rw [hAs]; decide)) only [put_ne, put_same])) hHeld2 rfl ?_
  refine done_ (by kernel_rfl) ?_
  rw [← hA]
  exact hend w2 v hr2 (((Stp.refl D _ w).drewN 1).alloc _ |>.trans st2) hE

noncomputable def ops34_72 : Array Oper := (Tryz.f34.body.bind (findRegion 72)).getD #[]

set_option maxHeartbeats 4000000 in
set_option maxRecDepth 100000 in
theorem region34_72 {Q : Exit → Act → World → Prop} {a : Act} {w : World} {B D T E : Nat} {sk : Bool} {m : MSt} {es : List UInt8}
    (hQ : ∀ (d : Tmp) (v : Value) (c : List PanicEntry) (a : Act) (w : World), Q (.panic c) (a.put (some d) v) w → Q (.panic c) a w) (hsz : a.tmps.size = 244)
    (h0 : a.eval (.tmp 0) = .pointer (some ⟨D, 0, none⟩)) (H : Rep w B D T E sk (m.d es)) (hk : m.Ok)
    (hend : ∀ w' v, Rep w' B D T E sk (m.broke.d es) → Stp D E w E w' → ErrIs B (m.flt m.off) w' v → Q .normal (putAll (putAll a [(215, .pointer (some ⟨D, 0, none⟩)), (216, .pointer (some ⟨D, 0, none⟩)), (217, .pointer (some ⟨D, 0, none⟩)), (218, .pointer (some ⟨D, 3, none⟩)), (219, .int .i64 (m.r1 : Int)), (220, .pointer (some ⟨D, 0, none⟩)), (221, .pointer (some ⟨D, 0, none⟩)), (222, .pointer (some ⟨D, 2, none⟩)), (223, .int .i64 (m.r0 : Int)), (224, .int .i64 ((m.r1 : Int) - (m.r0 : Int))), (225, .iface 167 (.pointer (some ⟨w.heap.size, 0, none⟩)))]) [(226, v), (2, .slice none 0 0), (3, .int .u8 0), (4, .slice none 0 0), (5, v)]) w') :
    (Code.region 72 ops34_72 true).wp Tryz.prog Q a w := by
  generalize ho : ops34_72 = ops
  conv at ho => lhs; whnf
  subst ho
  have hB : B ≤ w.heap.size := by have := H.lt; have := H.bD; omega
  have hw : IntKind.i64.wrap ((m.r1 : Int) - (m.r0 : Int)) = (m.r1 : Int) - (m.r0 : Int) := by
    have h1 := H.le0; have h2 := H.le1; have h3 := H.small
    simp only [MSt.d] at h1 h2 h3
    rw [IntKind.wrap_i64]; omega
  refine start_ (n := 16) (S := fun w' => w'.cell? ⟨D, 2, none⟩ = some (.int .i64 (m.r0 : Int)) ∧ w'.cell? ⟨D, 3, none⟩ = some (.int .i64 (m.r1 : Int))) (ds := []) #[false, false, false, false, false, false, false, false, false, false, false, false, false, false, false, false] (by kernel_rfl) rfl rfl (rep_two (H.drewN 1)) (fun hHeld => ?_)
  refine take_ (i := 0) (N := some 215) (v := .pointer (some ⟨D, 0, none⟩)) #[true, false, false, false, false, false, false, false, false, false, false, false, false, false, false, false] rfl rfl (by kernel_rfl) (hQ 215 _) (y_of rfl fun w9 ⟨s2, s3⟩ => x_move rfl (by simp (disch := first | decide | ((repeat rw [put_size]); rw [hsz]; decide)) only [h0])) hHeld rfl ?_
  refine take_ (i := 1) (N := some 216) (v := .pointer (some ⟨D, 0, none⟩)) #[true, true, false, false, false, false, false, false, false, false, false, false, false, false, false, false] rfl rfl (by kernel_rfl) (hQ 216 _) (y_of rfl fun w9 ⟨s2, s3⟩ => x_move rfl (by simp (disch := first | decide | ((repeat rw [put_size]); rw [hsz]; decide)) only [put_ne, h0])) hHeld rfl ?_
  refine take_ (i := 2) (N := some 217) (v := .pointer (some ⟨D, 0, none⟩)) #[true, true, true, false, false, false, false, false, false, false, false, false, false, false, false, false] rfl rfl (by kernel_rfl) (hQ 217 _) (y_of rfl fun w9 ⟨s2, s3⟩ => x_nil rfl (by simp (disch := first | decide | ((repeat rw [put_size]); rw [hsz]; decide)) only [put_same])) hHeld rfl ?_
  refine take_ (i := 3) (N := some 218) (v := .pointer (some ⟨D, 3, none⟩)) #[true, true, true, true, false, false, false, false, false, false, false, false, false, false, false, false] rfl rfl (by kernel_rfl) (hQ 218 _) (y_of rfl fun w9 ⟨s2, s3⟩ => x_field 3 (by decide) rfl (by simp (disch := first | decide | ((repeat rw [put_size]); rw [hsz]; decide)) only [put_same])) hHeld rfl ?_
  refine take_ (i := 4) (N := some 219) (v := .int .i64 (m.r1 : Int)) #[true, true, true, true, true, false, false, false, false, false, false, false, false, false, false, false] rfl rfl (by kernel_rfl) (hQ 219 _) (y_of rfl fun w9 ⟨s2, s3⟩ => x_load (by decide) rfl (by simp (disch := first | decide | ((repeat rw [put_size]); rw [hsz]; decide)) only [put_same]) s3) hHeld rfl ?_
  refine take_ (i := 5) (N := some 220) (v := .pointer (some ⟨D, 0, none⟩)) #[true, true, true, true, true, true, false, false, false, false, false, false, false, false, false, false] rfl rfl (by kernel_rfl) (hQ 220 _) (y_of rfl fun w9 ⟨s2, s3⟩ => x_move rfl (by simp (disch := first | decide | ((repeat rw [put_size]); rw [hsz]; decide)) only [put_ne, h0])) hHeld rfl ?_
  refine take_ (i := 6) (N := some 221) (v := .pointer (some ⟨D, 0, none⟩)) #[true, true, true, true, true, true, true, false, false, false, false, false, false, false, false, false] rfl rfl (by kernel_rfl) (hQ 221 _) (y_of rfl fun w9 ⟨s2, s3⟩ => x_nil rfl (by simp (disch := first | decide | ((repeat rw [put_size]); rw [hsz]; decide)) only [put_same])) hHeld rfl ?_
  refine take_ (i := 7) (N := some 222) (v := .pointer (some ⟨D, 2, none⟩)) #[true, true, true, true, true, true, true, true, false, false, false, false, false, false, false, false] rfl rfl (by kernel_rfl) (hQ 222 _) (y_of rfl fun w9 ⟨s2, s3⟩ => x_field 2 (by decide) rfl (by simp (disch := first | decide | ((repeat rw [put_size]); rw [hsz]; decide)) only [put_same])) hHeld rfl ?_
  refine take_ (i := 8) (N := some 223) (v := .int .i64 (m.r0 : Int)) #[true, true, true, true, true, true, true, true, true, false, false, false, false, false, false, false] rfl rfl (by kernel_rfl) (hQ 223 _) (y_of rfl fun w9 ⟨s2, s3⟩ => x_load (by decide) rfl (by simp (disch := first | decide | ((repeat rw [put_size]); rw [hsz]; decide)) only [put_same]) s2) hHeld rfl ?_
  refine take_ (i := 9) (N := some 224) (v := .int .i64 ((m.r1 : Int) - (m.r0 : Int))) #[true, true, true, true, true, true, true, true, true, true, false, false, false, false, false, false] rfl rfl (by kernel_rfl) (hQ 224 _) (y_of rfl fun w9 ⟨s2, s3⟩ => x_sub (m := (m.r1 : Int)) (n := (m.r0 : Int)) rfl (by simp (disch := first | decide | ((repeat rw [put_size]); rw [hsz]; decide)) only [put_ne, put_same]) (by simp (disch := first | decide | ((repeat rw [put_size]); rw [hsz]; decide)) only [put_same]) (by rw [hw])) hHeld rfl ?_
  refine one_ (i := 10) (N := some 225) #[true, true, true, true, true, true, true, true, true, true, true, false, false, false, false, false] rfl rfl (by kernel_rfl) (by decide) ?_
  intro K hK
  refine goes_ Tryz.func58 rfl rfl #[.string ⟨#[117, 110, 101, 120, 112, 101, 99, 116, 101, 100, 32, 99, 104, 97, 114, 97, 99, 116, 101, 114, 32, 46, 46, 32, 97, 102, 116, 101, 114, 32, 102, 105, 101, 108, 100]⟩] rfl rfl rfl (by simp only [List.map_toArray, List.map_cons, List.map_nil]; rfl) ?_
  refine (errorsNew_any _ _).mono ?_
  rintro e w1 ⟨rfl, rfl⟩
  have hr1 := (H.drewN 1).alloc (.cells #[.string ⟨#[117, 110, 101, 120, 112, 101, 99, 116, 101, 100, 32, 99, 104, 97, 114, 97, 99, 116, 101, 114, 32, 46, 46, 32, 97, 102, 116, 101, 114, 32, 102, 105, 101, 108, 100]⟩] 169)
  refine ⟨_, rfl, hK _ _ (rep_two hr1) (fun hHeld1 => ?_)⟩
  clear hK K
  refine norm_ (a' := Act.put _ (some 225) (.iface 167 (.pointer (some ⟨w.heap.size, 0, none⟩)))) rfl ?_
  obtain ⟨A, hA⟩ : ∃ A, putAll a [(215, .pointer (some ⟨D, 0, none⟩)), (216, .pointer (some ⟨D, 0, none⟩)), (217, .pointer (some ⟨D, 0, none⟩)), (218, .pointer (some ⟨D, 3, none⟩)), (219, .int .i64 (m.r1 : Int)), (220, .pointer (some ⟨D, 0, none⟩)), (221, .pointer (some ⟨D, 0, none⟩)), (222, .pointer (some ⟨D, 2, none⟩)), (223, .int .i64 (m.r0 : Int)), (224, .int .i64 ((m.r1 : Int) - (m.r0 : Int))), (225, .iface 167 (.pointer (some ⟨w.heap.size, 0, none⟩)))] = A := ⟨_, rfl⟩
  refine norm_ (a' := A) hA ?_
  have hAs : A.tmps.size = 244 := by rw [← hA]; simp only [putAll, put_size, hsz]
  have hA0 : A.eval (.tmp 215) = .pointer (some ⟨D, 0, none⟩) := by rw [← hA]; simp only [putAll]; simp (disch := first | decide | ((repeat rw [put_size]); rw [hsz]; decide)) only [put_ne, put_same]
  have hA1 : A.eval (.tmp 224) = .int .i64 ((m.r1 : Int) - (m.r0 : Int)) := by rw [← hA]; simp only [putAll]; simp (disch := first | decide | ((repeat rw [put_size]); rw [hsz]; decide)) only [put_ne, put_same]
  have hA2 : A.eval (.tmp 225) = .iface 167 (.pointer (some ⟨w.heap.size, 0, none⟩)) := by rw [← hA]; exact put_same _ _ _ (by (repeat rw [put_size]); rw [hsz]; decide)
  refine one_ (i := 11) (N := some 226) #[true, true, true, true, true, true, true, true, true, true, true, true, false, false, false, false] rfl rfl (by kernel_rfl) (by decide) ?_
  intro K hK
  refine goes_ Tryz.func57 rfl rfl #[.pointer (some ⟨D, 0, none⟩), .int .i64 ((m.r1 : Int) - (m.r0 : Int)), .iface 167 (.pointer (some ⟨w.heap.size, 0, none⟩))] rfl rfl rfl ?ha ?_
  case ha => simp only [List.map_toArray, List.map_cons, List.map_nil, hA0, hA1, hA2]
  refine (syntaxErr_any hr1 hk m.off (by have := hr1.le0; simp only [MSt.d] at this ⊢; unfold MSt.off; omega) _ (by have := hr1.le0; simp only [MSt.d] at this; unfold MSt.off; omega) _ ⟨hB, _, heap_alloc_new (w.drewN 1) _⟩).mono ?_
  rintro e w2 ⟨E2, v, rfl, hE, hr2, st2⟩
  obtain rfl : E2 = E := st2.esc
  refine ⟨_, rfl, hK _ _ (rep_two hr2) (fun hHeld2 => ?_)⟩
  clear hK K
  refine norm_ (a' := Act.put A (some 226) v) rfl ?_
  refine take_ (i := 12) (N := some 2) (v := .slice none 0 0) #[true, true, true, true, true, true, true, true, true, true, true, true, true, false, false, false] rfl rfl (by kernel_rfl) (hQ 2 _) (y_of rfl fun w9 ⟨s2, s3⟩ => x_assign rfl rfl) hHeld2 rfl ?_
  refine take_ (i := 13) (N := some 3) (v := .int .u8 0) #[true, true, true, true, true, true, true, true, true, true, true, true, true, true, false, false] rfl rfl (by kernel_rfl) (hQ 3 _) (y_of rfl fun w9 ⟨s2, s3⟩ => x_assign rfl rfl) hHeld2 rfl ?_
  refine take_ (i := 14) (N := some 4) (v := .slice none 0 0) #[true, true, true, true, true, true, true, true, true, true, true, true, true, true, true, false] rfl rfl (by kernel_rfl) (hQ 4 _) (y_of rfl fun w9 ⟨s2, s3⟩ => x_assign rfl rfl) hHeld2 rfl ?_
  refine take_ (i := 15) (N := some 5) (v := v) #[true, true, true, true, true, true, true, true, true, true, true, true, true, true, true, true] rfl rfl (by kernel_rfl) (hQ 5 _) (y_of rfl fun w9 ⟨s2, s3⟩ => x_assign rfl (by simp (disch := first | decide | ((repeat rw [put_size]); rw [hAs]; decide)) only [put_ne, put_same])) hHeld2 rfl ?_
  refine done_ (by kernel_rfl) ?_
  rw [← hA]
  exact hend w2 v hr2 (((Stp.refl D _ w).drewN 1).alloc _ |>.trans st2) hE
end Go.Proofs.YtejlokdcocacaaaGreatDoor

/- The plain state beside the one with unescaped bytes; the comma behind a measurement or a tag. -/
namespace Go.Proofs.YtejlokdcocacaaaGreatDoor
open Go.RowKit Go.Proofs.YtejlokdcocacaaaGreatDoorW.PrintLast

theorem d_reset (m : MSt) (es : List UInt8) : (m.d es).reset = m.reset.d [] := by
  by_cases h : m.t.length = m.r1
  · have h' : (m.d es).t.length = (m.d es).r1 := h
    rw [DSt.reset, MSt.reset, if_pos h, if_pos h']; rfl
  · have h' : ¬ (m.d es).t.length = (m.d es).r1 := h
    rw [DSt.reset, MSt.reset, if_neg h, if_neg h']; rfl

theorem d_eol (m : MSt) (es : List UInt8) : (m.d es).eol = (m.eol.1, m.eol.2.d es) := by
  have h1 : (m.d es).has 1 = m.has 1 := rfl
  have h2 : (m.d es).has 2 = m.has 2 := rfl
  have h3 : (m.d es).at 0 = m.at0 := rfl
  have h4 : (m.d es).at 1 = m.t.getD (m.r1 + 1) 0 := rfl
  unfold DSt.eol MSt.eol
  rw [h1, h2, h3, h4]
  repeat' split
  all_goals rfl

theorem d_ok {m : MSt} (es : List UInt8) (h : m.Ok) : (m.d es).Ok := h

/-- A fault, or none. -/
def FltIs (B : Nat) (o : Option Flt) (w : World) (v : Value) : Prop :=
  match o with
  | none => v = .nilIface
  | some f => ErrIs B f w v

theorem at0_code {w : World} {B D T E : Nat} {sk : Bool} {m : MSt} {es : List UInt8} (h : Rep w B D T E sk (m.d es)) (v : Int) (hv : v = 0) :
    Calls Tryz.prog 63 #[.pointer (some ⟨D, 0, none⟩), .int .i64 v] w fun e w' => e = .returned (.int .u8 (m.at0.toNat : Int)) ∧ ∃ n, w' = w.drewN n := by
  subst hv
  exact at_any h 0 (by omega) 0 rfl

theorem has_code {w : World} {B D T E : Nat} {sk : Bool} {m : MSt} {es : List UInt8} (h : Rep w B D T E sk (m.d es)) (v : Int) (hv : v = 1) :
    Calls Tryz.prog 52 #[.pointer (some ⟨D, 0, none⟩), .int .i64 v] w fun e w' => e = .returned (.bool (m.has 1)) ∧ ∃ n, w' = w.drewN n := by
  subst hv
  exact ensure_any h 1 (by omega) 1 rfl

theorem adv_code {w : World} {B D T E : Nat} {sk : Bool} {m : MSt} {es : List UInt8} (h : Rep w B D T E sk (m.d es)) (hh : m.has 1 = true) (v : Int) (hv : v = 1) :
    Calls Tryz.prog 67 #[.pointer (some ⟨D, 0, none⟩), .int .i64 v] w (DP B D T E sk w ((m.adv 1).d es) fun _ v => v = .tuple #[]) := by
  subst hv
  exact advance_any h 1 (by show m.r1 + 1 ≤ m.t.length; simpa [MSt.has] using hh) 1 rfl

theorem errIs_far {B : Nat} {f : Flt} {w w' : World} {v : Value} (h : ErrIs B f w v) (hk : ∀ k, k < w.heap.size → B ≤ k → (∃ c t, w.heap[k]? = some (.cells c t (0, 0)) ∧ (t = 132 ∨ t = 169)) → w'.heap[k]? = w.heap[k]?) : ErrIs B f w' v := by
  obtain ⟨X, Y, rfl, hx, h1, h2, s, h3⟩ := h
  exact ⟨X, Y, rfl, by rw [hk X (lt_of_block hx) h1 ⟨_, _, hx, .inl rfl⟩]; exact hx, h1, h2, s, by rw [hk Y (lt_of_block h3) h2 ⟨_, _, h3, .inr rfl⟩]; exact h3⟩

set_option maxHeartbeats 4000000 in
theorem comma_any {w : World} {B D T E : Nat} {sk : Bool} {m : MSt} {es : List UInt8} (h : Rep w B D T E sk (m.d es)) (hk : m.Ok) :
    Calls Tryz.prog 59 #[.pointer (some ⟨D, 0, none⟩)] w (DP B D T E sk w ((mComma m).1.d es) (FltIs B (mComma m).2)) := by
  have H := hid h; clear h
  have HK := hid hk; clear hk
  go_enter Tryz.func59, Tryz.ntmps59
  go_wp2_with fail
  refine (has_code H.out 1 rfl).mono ?_; rintro e w1 ⟨rfl, n1, rfl⟩
  cases hb : m.has 1
  · have HB := hid hb; clear hb
    go_wp2
    go_ret
    have e1 : mComma m = (m, none) := by simp [mComma, HB.out]
    rw [e1]
    exact ⟨E, _, rfl, rfl, H.out.drewN _, (Stp.refl _ _ _).drewN _⟩
  have HB := hid hb; clear hb
  go_wp2_with fail
  refine (at0_code (H.out.drewN n1) 0 rfl).mono ?_; rintro e w1 ⟨rfl, n2, rfl⟩
  by_cases h44 : m.at0 = 44
  · have e1 : (m.at0.toNat : Int) = 44 := by rw [h44]; rfl
    rw [e1]
    have H44 := hid h44; clear h44 e1
    go_wp2_with fail
    refine (adv_code (H.out.drewN _) HB.out 1 rfl).mono ?_; rintro e w2 ⟨E2, v, rfl, rfl, h2, st2⟩
    obtain rfl : E2 = E := st2.esc
    have H2 := hid h2; clear h2
    have HS := hid (((Stp.refl D E2 w).drewN _).trans st2); clear st2
    obtain ⟨m1, hm1⟩ : ∃ m1, m.adv 1 = m1 := ⟨_, rfl⟩
    have hok1 : m1.Ok := by rw [← hm1]; exact (adv_adv m 1).ok HK.out
    have HOK1 := hid hok1; clear hok1
    have HM1 := hid hm1
    rw [hm1] at H2
    clear hm1
    go_wp2_with fail
    refine (has_code H2.out 1 rfl).mono ?_; rintro e w3 ⟨rfl, n3, rfl⟩
    cases hb1 : m1.has 1
    · have HB1 := hid hb1; clear hb1
      go_wp2_with fail
      refine region59_8 (D := D) (m := m1) (fun _ _ _ _ _ h => h) rfl rfl (H2.out.drewN n3) HOK1.out ?_
      intro w4 v hr4 st4 hE
      have HR4 := hid hr4; clear hr4
      have HS4 := hid st4; clear st4
      have HE := hid hE; clear hE
      simp only [putAll, Act.put, List.setIfInBounds_toArray, List.set_cons_zero, List.set_cons_succ]
      go_wp2_with fail
      go_ret
      have e1 : mComma m = (m1.broke, some (m1.flt m1.off)) := by unfold mComma; rw [if_pos ⟨HB.out, H44.out⟩, HM1.out, if_pos (.inl HB1.out)]
      rw [e1]
      exact ⟨E2, _, rfl, HE.out, HR4.out, (HS.out.drewN _).trans HS4.out⟩
    · have HB1 := hid hb1; clear hb1
      go_wp2_with fail
      refine (white_any _).mono ?_; rintro e w4 ⟨S, rfl, hS, hbel, hSl⟩
      have hr4 := (H2.out.drewN n3).below hbel
      have st4 := (HS.out.drewN n3).below hbel
      have HR4 := hid hr4; clear hr4
      have HS4 := hid st4; clear st4 hbel
      have HSet := hid hS; clear hS hSl
      go_wp2_with fail
      refine (at0_code HR4.out 0 rfl).mono ?_; rintro e w5 ⟨rfl, n5, rfl⟩
      have hget := get_any (w := w4.drewN n5) (S := S) (f := whiteP) HSet.out m1.at0
      obtain ⟨wb, hwb⟩ : ∃ wb, whiteP m1.at0.toNat = wb := ⟨_, rfl⟩
      rw [hwb] at hget
      have HWB := hid hwb; clear hwb
      go_wp2_with fail
      refine hget.mono ?_; rintro e w6 ⟨rfl, rfl⟩
      clear hget
      cases wb
      · go_wp2_with fail
        go_ret
        have e1 : mComma m = (m1, none) := by unfold mComma; rw [if_pos ⟨HB.out, H44.out⟩, HM1.out, if_neg (by rw [HB1.out, HWB.out]; simp)]
        rw [e1]
        exact ⟨E2, _, rfl, rfl, HR4.out.drewN _, HS4.out.drewN _⟩
      · go_wp2_with fail
        refine region59_10 (D := D) (m := m1) (fun _ _ _ _ _ h => h) rfl rfl (HR4.out.drewN n5) HOK1.out ?_
        intro w7 v hr7 st7 hE
        have HR7 := hid hr7; clear hr7
        have HS7 := hid st7; clear st7
        have HE := hid hE; clear hE
        simp only [putAll, Act.put, List.setIfInBounds_toArray, List.set_cons_zero, List.set_cons_succ]
        go_wp2_with fail
        go_ret
        have e1 : mComma m = (m1.broke, some (m1.flt m1.off)) := by unfold mComma; rw [if_pos ⟨HB.out, H44.out⟩, HM1.out, if_pos (.inr HWB.out)]
        rw [e1]
        exact ⟨E2, _, rfl, HE.out, HR7.out, (HS4.out.drewN _).trans HS7.out⟩
  · have e44 : ((m.at0.toNat : Int) != 44) = true := by
      rw [bne_iff_ne]; exact fun e => h44 ((u8_eq _ 44 (by omega)).1 (by rw [beq_iff_eq]; exact e))
    have H44 := hid h44; clear h44
    go_wp2_with fail
    go_ret
    have e1 : mComma m = (m, none) := by unfold mComma; rw [if_neg (fun h => H44.out h.2)]
    rw [e1]
    exact ⟨E, _, rfl, rfl, H.out.drewN _, (Stp.refl _ _ _).drewN _⟩
end Go.Proofs.YtejlokdcocacaaaGreatDoor
