/- Two regions of takeEsc that append a piece of the text onto the buffer of unescaped bytes, each over an abstract frame; steps of operations. The theorems on the regions are printed by gen_reg.py. -/
import Derived.Test.YtejlokdcocacaaaGreatDoorKApp
import Derived.Test.YtejlokdcocacaaaGreatDoorKWLast
import Derived.Deep.QuietTactic
namespace Go.Proofs.YtejlokdcocacaaaGreatDoor
open Go.RowKit Go.Proofs.YtejlokdcocacaaaGreatDoorW.PrintLast

section
variable {ops : Array Oper} {S : World → Prop} {o : Oper} {v : Value} {a : Act} {ρ : Operand → Value} {w : World}

theorem put_same (a : Act) (d : Nat) (v : Value) (h : d < a.tmps.size) : (a.put (some d) v).eval (.tmp d) = v := by
  simp [Act.put, Act.eval, h]
theorem put_ne (a : Act) (d j : Nat) (v : Value) (h : d ≠ j) : (a.put (some d) v).eval (.tmp j) = a.eval (.tmp j) := by
  simp [Act.put, Act.eval, Array.getD_eq_getD_getElem?, h]
theorem put_size (a : Act) (d : Nat) (v : Value) : (a.put (some d) v).tmps.size = a.tmps.size := by
  simp [Act.put]

theorem y_of (hg : o.guard = none) (h : ∀ w, S w → (execOp a.eval o).run Tryz.prog w = .ok (.value v) w) : YieldsIf Tryz.prog ops S o v a :=
  .inl ⟨by simp [Region.wanted, hg], h⟩

theorem x_move {x : Operand} (ho : o.op = .move x) (hx : ρ x = v) : (execOp ρ o).run Tryz.prog w = .ok (.value v) w := by
  cases o
  simp only at ho
  subst ho
  go_simp

theorem x_nil {x : Operand} {p : Addr} (ho : o.op = .nilCheck x) (hx : ρ x = .pointer (some p)) : (execOp ρ o).run Tryz.prog w = .ok (.value (.pointer (some p))) w := by
  cases o
  simp only at ho
  subst ho
  go_simp

theorem x_field {x : Operand} {D : Nat} (k : Nat) (hk : k < 10) (ho : o.op = .fieldAddr 92 x k) (hx : ρ x = .pointer (some ⟨D, 0, none⟩)) : (execOp ρ o).run Tryz.prog w = .ok (.value (.pointer (some ⟨D, k, none⟩))) w := by
  cases o
  simp only at ho
  subst ho
  have : k = 0 ∨ k = 1 ∨ k = 2 ∨ k = 3 ∨ k = 4 ∨ k = 5 ∨ k = 6 ∨ k = 7 ∨ k = 8 ∨ k = 9 := by omega
  rcases this with rfl | rfl | rfl | rfl | rfl | rfl | rfl | rfl | rfl | rfl <;> go_simp

theorem x_load {x : Operand} {p : Addr} {ty : Nat} (hty : ty = 69 ∨ ty = 3 ∨ ty = 2 ∨ ty = 4 ∨ ty = 90 ∨ ty = 5) (ho : o.op = .load ty x) (hx : ρ x = .pointer (some p)) (hc : w.cell? p = some v) : (execOp ρ o).run Tryz.prog w = .ok (.value v) w := by
  cases o
  simp only at ho
  subst ho
  rcases hty with rfl | rfl | rfl | rfl | rfl | rfl <;> go_simp

theorem x_add {x y : Operand} {m n : Int} {t : Nat} (ht : t = 3 ∨ t = 2) (ho : o.op = .binOp .add t x y t) (hx : ρ x = .int .i64 m) (hy : ρ y = .int .i64 n) (hv : v = .int .i64 (IntKind.i64.wrap (m + n))) : (execOp ρ o).run Tryz.prog w = .ok (.value v) w := by
  cases o
  simp only at ho
  subst ho hv
  rcases ht with rfl | rfl <;> go_simp

theorem x_slice {b lo hi : Operand} {T n C l h : Nat} (ho : o.op = .slice 69 b (some lo) (some hi) none) (hb : ρ b = .slice (some ⟨T, 0, none⟩) n C) (hl : ρ lo = .int .i64 (l : Int)) (hh : ρ hi = .int .i64 (h : Int)) (h1 : l ≤ h) (h2 : h ≤ C) (_hm : C ≤ maxLen) : (execOp ρ o).run Tryz.prog w = .ok (.value (sliced (some ⟨T, 0, none⟩) l h C 1)) w := by
  cases o
  simp only at ho
  subst ho
  have g0 : (0 : Int) ≤ (l : Int) := by omega
  have g1 : (l : Int) ≤ (h : Int) := by omega
  have g2 : (h : Int) ≤ (C : Int) := by omega
  go_simp

theorem x_store {x y : Operand} {p : Addr} {old : Value} {sa : Option Addr} {sl sc : Nat} (ho : o.op = .store 69 x y) (hx : ρ x = .pointer (some p)) (hy : ρ y = .slice sa sl sc) (hc : w.cell? p = some old) (hf : w.frozen? p = false) : (execOp ρ o).run Tryz.prog w = .ok .skip (w.setCell p (.slice sa sl sc)) := by
  cases o
  simp only at ho
  subst ho
  go_simp

theorem x_storeI {x y : Operand} {p : Addr} {old : Value} {m : Int} (ho : o.op = .store 2 x y) (hx : ρ x = .pointer (some p)) (hy : ρ y = .int .i64 m) (hc : w.cell? p = some old) (hf : w.frozen? p = false) : (execOp ρ o).run Tryz.prog w = .ok .skip (w.setCell p (.int .i64 m)) := by
  cases o
  simp only at ho
  subst ho
  go_simp
end

def findRegion (n : Nat) : Code → Option (Array Oper)
  | .region k ops _ => if k = n then some ops else none
  | .seq a b => match findRegion n a with
    | some c => some c
    | none => findRegion n b
  | .block _ c => findRegion n c
  | .scope c => findRegion n c
  | .loop c => findRegion n c
  | .cond _ a b => match findRegion n a with
    | some c => some c
    | none => findRegion n b
  | _ => none

/-- The operations of takeEsc's region 27. -/
noncomputable def ops54_27 : Array Oper := (Tryz.f54.body.bind (findRegion 27)).getD #[]

set_option maxHeartbeats 4000000 in
set_option maxRecDepth 100000 in
theorem region54_27 {Q : Exit → Act → World → Prop} {a : Act} {w : World} {D : Nat} {v16 : Value} {line cnt : Int}
    (hQ : ∀ (d : Tmp) (v : Value) (c : List PanicEntry) (a : Act) (w : World), Q (.panic c) (a.put (some d) v) w → Q (.panic c) a w) (hsz : a.tmps.size = 242)
    (h0 : a.eval (.tmp 0) = .pointer (some ⟨D, 0, none⟩)) (h16 : a.eval (.tmp 16) = v16) (c8 : w.cell? ⟨D, 8, none⟩ = some (.int .i64 line)) (f8 : w.frozen? ⟨D, 8, none⟩ = false) (hw : IntKind.i64.wrap (line + cnt) = line + cnt)
    (hcall : Calls Tryz.prog 100 #[v16, .int .u8 10] w.drew fun e w' => e = .returned (.int .i64 cnt) ∧ w' = w.drew)
    (hend : Q .normal (putAll (putAll a [(186, .pointer (some ⟨D, 0, none⟩)), (187, .pointer (some ⟨D, 0, none⟩)), (188, .pointer (some ⟨D, 8, none⟩)), (189, .int .i64 line), (190, v16), (191, .int .i64 cnt)]) [(192, .int .i64 (line + cnt)), (193, .pointer (some ⟨D, 0, none⟩)), (194, .pointer (some ⟨D, 8, none⟩))]) (w.drew.setCell ⟨D, 8, none⟩ (.int .i64 (line + cnt)))) :
    (Code.region 27 ops54_27 true).wp Tryz.prog Q a w := by
  generalize ho : ops54_27 = ops
  conv at ho => lhs; whnf
  subst ho
  refine start_ (n := 10) (S := fun w' => w'.cell? ⟨D, 8, none⟩ = some (.int .i64 line)) (ds := [9]) #[false, false, false, false, false, false, false, false, false, false] (by kernel_rfl) rfl rfl c8 (fun hHeld => ?_)
  refine take_ (i := 0) (N := some 186) (v := .pointer (some ⟨D, 0, none⟩)) #[true, false, false, false, false, false, false, false, false, false] rfl rfl (by kernel_rfl) (hQ 186 _) (y_of rfl fun w2 s8 => x_move rfl h0) hHeld rfl ?_
  refine take_ (i := 1) (N := some 187) (v := .pointer (some ⟨D, 0, none⟩)) #[true, true, false, false, false, false, false, false, false, false] rfl rfl (by kernel_rfl) (hQ 187 _) (y_of rfl fun w2 s8 => x_nil rfl (by simp (disch := first | decide | ((repeat rw [put_size]); rw [hsz]; decide)) only [put_same])) hHeld rfl ?_
  refine take_ (i := 2) (N := some 188) (v := .pointer (some ⟨D, 8, none⟩)) #[true, true, true, false, false, false, false, false, false, false] rfl rfl (by kernel_rfl) (hQ 188 _) (y_of rfl fun w2 s8 => x_field 8 (by decide) rfl (by simp (disch := first | decide | ((repeat rw [put_size]); rw [hsz]; decide)) only [put_same])) hHeld rfl ?_
  refine take_ (i := 3) (N := some 189) (v := .int .i64 line) #[true, true, true, true, false, false, false, false, false, false] rfl rfl (by kernel_rfl) (hQ 189 _) (y_of rfl fun w2 s8 => x_load (by decide) rfl (by simp (disch := first | decide | ((repeat rw [put_size]); rw [hsz]; decide)) only [put_same]) s8) hHeld rfl ?_
  refine take_ (i := 4) (N := some 190) (v := v16) #[true, true, true, true, true, false, false, false, false, false] rfl rfl (by kernel_rfl) (hQ 190 _) (y_of rfl fun w2 s8 => x_move rfl (by simp (disch := first | decide | ((repeat rw [put_size]); rw [hsz]; decide)) only [put_ne, h16])) hHeld rfl ?_
  refine one_ (i := 5) (N := some 191) #[true, true, true, true, true, true, false, false, false, false] rfl rfl (by kernel_rfl) (by decide) ?_
  intro K hK
  refine goes_ Tryz.func100 rfl rfl #[v16, .int .u8 10] rfl rfl rfl ?ha ?hc
  case ha => simp only [List.map_toArray, List.map_cons, List.map_nil]; rw [put_same _ _ _ (by (repeat rw [put_size]); rw [hsz]; decide)]; rfl
  refine hcall.mono ?_
  rintro e w2 ⟨rfl, rfl⟩
  refine ⟨_, rfl, hK _ _ hHeld (fun hHeld1 => ?_)⟩
  clear hK K
  obtain ⟨A, hA⟩ : ∃ A, putAll a [(186, .pointer (some ⟨D, 0, none⟩)), (187, .pointer (some ⟨D, 0, none⟩)), (188, .pointer (some ⟨D, 8, none⟩)), (189, .int .i64 line), (190, v16), (191, .int .i64 cnt)] = A := ⟨_, rfl⟩
  refine norm_ (a' := A) hA ?_
  have hAs : A.tmps.size = 242 := by rw [← hA]; simp only [putAll, put_size, hsz]
  have hA1 : A.eval (.tmp 189) = .int .i64 line := by rw [← hA]; simp only [putAll]; simp (disch := first | decide | ((repeat rw [put_size]); rw [hsz]; decide)) only [put_ne, put_same]
  have hA2 : A.eval (.tmp 191) = .int .i64 cnt := by rw [← hA]; exact put_same _ _ _ (by (repeat rw [put_size]); rw [hsz]; decide)
  have hA3 : A.eval (.tmp 186) = .pointer (some ⟨D, 0, none⟩) := by rw [← hA]; simp only [putAll]; simp (disch := first | decide | ((repeat rw [put_size]); rw [hsz]; decide)) only [put_ne, put_same]
  refine take_ (i := 6) (N := some 192) (v := .int .i64 (line + cnt)) #[true, true, true, true, true, true, true, false, false, false] rfl rfl (by kernel_rfl) (hQ 192 _) (y_of rfl fun w2 s8 => x_add (m := line) (n := cnt) (.inr rfl) rfl hA1 hA2 (by rw [hw])) hHeld rfl ?_
  refine take_ (i := 7) (N := some 193) (v := .pointer (some ⟨D, 0, none⟩)) #[true, true, true, true, true, true, true, true, false, false] rfl rfl (by kernel_rfl) (hQ 193 _) (y_of rfl fun w2 s8 => x_nil rfl (by simp (disch := first | decide | ((repeat rw [put_size]); rw [hAs]; decide)) only [put_ne, hA3])) hHeld rfl ?_
  refine take_ (i := 8) (N := some 194) (v := .pointer (some ⟨D, 8, none⟩)) #[true, true, true, true, true, true, true, true, true, false] rfl rfl (by kernel_rfl) (hQ 194 _) (y_of rfl fun w2 s8 => x_field 8 (by decide) rfl (by simp (disch := first | decide | ((repeat rw [put_size]); rw [hAs]; decide)) only [put_same])) hHeld rfl ?_
  obtain ⟨A2, hA5⟩ : ∃ A2, putAll A [(192, .int .i64 (line + cnt)), (193, .pointer (some ⟨D, 0, none⟩)), (194, .pointer (some ⟨D, 8, none⟩))] = A2 := ⟨_, rfl⟩
  refine norm_ (a' := A2) hA5 ?_
  have hB1 : A2.eval (.tmp 194) = .pointer (some ⟨D, 8, none⟩) := by rw [← hA5]; exact put_same _ _ _ (by (repeat rw [put_size]); rw [hAs]; decide)
  have hB2 : A2.eval (.tmp 192) = .int .i64 (line + cnt) := by rw [← hA5]; simp only [putAll]; simp (disch := first | decide | ((repeat rw [put_size]); rw [hAs]; decide)) only [put_ne, put_same]
  refine last_ (i := 9) (N := none) #[true, true, true, true, true, true, true, true, true, true] rfl rfl (by kernel_rfl) (by decide) ?_
  intro K hK
  refine skip_ (by rfl) rfl (x_storeI (p := ⟨D, 8, none⟩) rfl hB1 hB2 c8 f8) ?_
  refine hK _ _ ?_
  refine done_ (by kernel_rfl) ?_
  rw [← hA5, ← hA]
  exact hend

/-- The operations of takeEsc's region 20. -/
noncomputable def ops54_20 : Array Oper := (Tryz.f54.body.bind (findRegion 20)).getD #[]

set_option maxHeartbeats 4000000 in
set_option maxRecDepth 100000 in
theorem region54_20 {Q : Exit → Act → World → Prop} {a : Act} {w : World} {B D T E n C ec m0 r0 r1 lo hh : Nat} {xs : List Value} {x10 x13 : Int} {l : List UInt8} {ad : Addr}
    (hQ : ∀ (d : Tmp) (v : Value) (c : List PanicEntry) (a : Act) (w : World), Q (.panic c) (a.put (some d) v) w → Q (.panic c) a w) (hsz : a.tmps.size = 242)
    (h0 : a.eval (.tmp 0) = .pointer (some ⟨D, 0, none⟩)) (h10 : a.eval (.tmp 10) = .int .i64 x10) (h13 : a.eval (.tmp 13) = .int .i64 x13)
    (c7 : w.cell? ⟨D, 7, none⟩ = some (.slice (some ⟨E, 0, none⟩) m0 ec)) (c1 : w.cell? ⟨D, 1, none⟩ = some (.slice (some ⟨T, 0, none⟩) n C)) (c2 : w.cell? ⟨D, 2, none⟩ = some (.int .i64 (r0 : Int))) (c3 : w.cell? ⟨D, 3, none⟩ = some (.int .i64 (r1 : Int)))
    (f7 : w.frozen? ⟨D, 7, none⟩ = false) (hDlt : D < w.heap.size) (hDE : D ≠ E) (hw1 : IntKind.i64.wrap ((r0 : Int) + x10) = (lo : Int)) (hw2 : IntKind.i64.wrap ((r1 : Int) + x13) = (hh : Int)) (hlh : lo ≤ hh) (hhC : hh ≤ C) (hC : C ≤ maxLen)
    (hsv : sliced (some ⟨T, 0, none⟩) lo hh C 1 = .slice (some ad) (hh - lo) (C - lo)) (hown : w.ownsRow B 5 1 (.slice (some ⟨E, 0, none⟩) m0 ec) m0 xs) (hl : l.length = hh - lo)
    (hnews : ∀ j u, (l.map byteV)[j]? = some u → w.cell? (ad.add j) = some u) (hbd : m0 + (hh - lo) ≤ 100000) (hB : B ≤ w.heap.size)
    (hend : ∀ g cap w1, Appd B E m0 (hh - lo) xs (l.map byteV) w.drew g cap w1 → Q .normal (putAll a [(111, .pointer (some ⟨D, 0, none⟩)), (112, .pointer (some ⟨D, 0, none⟩)), (113, .pointer (some ⟨D, 0, none⟩)), (114, .pointer (some ⟨D, 7, none⟩)), (115, .slice (some ⟨E, 0, none⟩) m0 ec), (116, .pointer (some ⟨D, 0, none⟩)), (117, .pointer (some ⟨D, 0, none⟩)), (118, .pointer (some ⟨D, 1, none⟩)), (119, .slice (some ⟨T, 0, none⟩) n C), (120, .pointer (some ⟨D, 0, none⟩)), (121, .pointer (some ⟨D, 0, none⟩)), (122, .pointer (some ⟨D, 2, none⟩)), (123, .int .i64 (r0 : Int)), (124, .int .i64 x10), (125, .int .i64 (lo : Int)), (126, .pointer (some ⟨D, 0, none⟩)), (127, .pointer (some ⟨D, 0, none⟩)), (128, .pointer (some ⟨D, 3, none⟩)), (129, .int .i64 (r1 : Int)), (130, .int .i64 x13), (131, .int .i64 (hh : Int)), (132, .slice (some ad) (hh - lo) (C - lo)), (133, .slice (some ⟨g, 0, none⟩) (m0 + (hh - lo)) cap), (134, .pointer (some ⟨D, 0, none⟩)), (135, .pointer (some ⟨D, 7, none⟩))]) (w1.setCell ⟨D, 7, none⟩ (.slice (some ⟨g, 0, none⟩) (m0 + (hh - lo)) cap))) :
    (Code.region 20 ops54_20 true).wp Tryz.prog Q a w := by
  generalize ho : ops54_20 = ops
  conv at ho => lhs; whnf
  subst ho
  refine start_ (n := 26) (S := fun w' => w'.cell? ⟨D, 7, none⟩ = some (.slice (some ⟨E, 0, none⟩) m0 ec) ∧ w'.cell? ⟨D, 1, none⟩ = some (.slice (some ⟨T, 0, none⟩) n C) ∧ w'.cell? ⟨D, 2, none⟩ = some (.int .i64 (r0 : Int)) ∧ w'.cell? ⟨D, 3, none⟩ = some (.int .i64 (r1 : Int))) (ds := [25]) #[false, false, false, false, false, false, false, false, false, false, false, false, false, false, false, false, false, false, false, false, false, false, false, false, false, false] (by kernel_rfl) rfl rfl ⟨c7, c1, c2, c3⟩ (fun hHeld => ?_)
  refine take_ (i := 0) (N := some 111) (v := .pointer (some ⟨D, 0, none⟩)) #[true, false, false, false, false, false, false, false, false, false, false, false, false, false, false, false, false, false, false, false, false, false, false, false, false, false] rfl rfl (by kernel_rfl) (hQ 111 _) (y_of rfl fun w2 ⟨s7, s1, s2, s3⟩ => x_move rfl (by simp (disch := first | decide | ((repeat rw [put_size]); rw [hsz]; decide)) only [h0])) hHeld rfl ?_
  refine take_ (i := 1) (N := some 112) (v := .pointer (some ⟨D, 0, none⟩)) #[true, true, false, false, false, false, false, false, false, false, false, false, false, false, false, false, false, false, false, false, false, false, false, false, false, false] rfl rfl (by kernel_rfl) (hQ 112 _) (y_of rfl fun w2 ⟨s7, s1, s2, s3⟩ => x_move rfl (by simp (disch := first | decide | ((repeat rw [put_size]); rw [hsz]; decide)) only [put_ne, h0])) hHeld rfl ?_
  refine take_ (i := 2) (N := some 113) (v := .pointer (some ⟨D, 0, none⟩)) #[true, true, true, false, false, false, false, false, false, false, false, false, false, false, false, false, false, false, false, false, false, false, false, false, false, false] rfl rfl (by kernel_rfl) (hQ 113 _) (y_of rfl fun w2 ⟨s7, s1, s2, s3⟩ => x_nil rfl (by simp (disch := first | decide | ((repeat rw [put_size]); rw [hsz]; decide)) only [put_same])) hHeld rfl ?_
  refine take_ (i := 3) (N := some 114) (v := .pointer (some ⟨D, 7, none⟩)) #[true, true, true, true, false, false, false, false, false, false, false, false, false, false, false, false, false, false, false, false, false, false, false, false, false, false] rfl rfl (by kernel_rfl) (hQ 114 _) (y_of rfl fun w2 ⟨s7, s1, s2, s3⟩ => x_field 7 (by decide) rfl (by simp (disch := first | decide | ((repeat rw [put_size]); rw [hsz]; decide)) only [put_same])) hHeld rfl ?_
  refine take_ (i := 4) (N := some 115) (v := .slice (some ⟨E, 0, none⟩) m0 ec) #[true, true, true, true, true, false, false, false, false, false, false, false, false, false, false, false, false, false, false, false, false, false, false, false, false, false] rfl rfl (by kernel_rfl) (hQ 115 _) (y_of rfl fun w2 ⟨s7, s1, s2, s3⟩ => x_load (by decide) rfl (by simp (disch := first | decide | ((repeat rw [put_size]); rw [hsz]; decide)) only [put_same]) s7) hHeld rfl ?_
  refine take_ (i := 5) (N := some 116) (v := .pointer (some ⟨D, 0, none⟩)) #[true, true, true, true, true, true, false, false, false, false, false, false, false, false, false, false, false, false, false, false, false, false, false, false, false, false] rfl rfl (by kernel_rfl) (hQ 116 _) (y_of rfl fun w2 ⟨s7, s1, s2, s3⟩ => x_move rfl (by simp (disch := first | decide | ((repeat rw [put_size]); rw [hsz]; decide)) only [put_ne, h0])) hHeld rfl ?_
  refine take_ (i := 6) (N := some 117) (v := .pointer (some ⟨D, 0, none⟩)) #[true, true, true, true, true, true, true, false, false, false, false, false, false, false, false, false, false, false, false, false, false, false, false, false, false, false] rfl rfl (by kernel_rfl) (hQ 117 _) (y_of rfl fun w2 ⟨s7, s1, s2, s3⟩ => x_nil rfl (by simp (disch := first | decide | ((repeat rw [put_size]); rw [hsz]; decide)) only [put_same])) hHeld rfl ?_
  refine take_ (i := 7) (N := some 118) (v := .pointer (some ⟨D, 1, none⟩)) #[true, true, true, true, true, true, true, true, false, false, false, false, false, false, false, false, false, false, false, false, false, false, false, false, false, false] rfl rfl (by kernel_rfl) (hQ 118 _) (y_of rfl fun w2 ⟨s7, s1, s2, s3⟩ => x_field 1 (by decide) rfl (by simp (disch := first | decide | ((repeat rw [put_size]); rw [hsz]; decide)) only [put_same])) hHeld rfl ?_
  refine take_ (i := 8) (N := some 119) (v := .slice (some ⟨T, 0, none⟩) n C) #[true, true, true, true, true, true, true, true, true, false, false, false, false, false, false, false, false, false, false, false, false, false, false, false, false, false] rfl rfl (by kernel_rfl) (hQ 119 _) (y_of rfl fun w2 ⟨s7, s1, s2, s3⟩ => x_load (by decide) rfl (by simp (disch := first | decide | ((repeat rw [put_size]); rw [hsz]; decide)) only [put_same]) s1) hHeld rfl ?_
  refine take_ (i := 9) (N := some 120) (v := .pointer (some ⟨D, 0, none⟩)) #[true, true, true, true, true, true, true, true, true, true, false, false, false, false, false, false, false, false, false, false, false, false, false, false, false, false] rfl rfl (by kernel_rfl) (hQ 120 _) (y_of rfl fun w2 ⟨s7, s1, s2, s3⟩ => x_move rfl (by simp (disch := first | decide | ((repeat rw [put_size]); rw [hsz]; decide)) only [put_ne, h0])) hHeld rfl ?_
  refine take_ (i := 10) (N := some 121) (v := .pointer (some ⟨D, 0, none⟩)) #[true, true, true, true, true, true, true, true, true, true, true, false, false, false, false, false, false, false, false, false, false, false, false, false, false, false] rfl rfl (by kernel_rfl) (hQ 121 _) (y_of rfl fun w2 ⟨s7, s1, s2, s3⟩ => x_nil rfl (by simp (disch := first | decide | ((repeat rw [put_size]); rw [hsz]; decide)) only [put_same])) hHeld rfl ?_
  refine take_ (i := 11) (N := some 122) (v := .pointer (some ⟨D, 2, none⟩)) #[true, true, true, true, true, true, true, true, true, true, true, true, false, false, false, false, false, false, false, false, false, false, false, false, false, false] rfl rfl (by kernel_rfl) (hQ 122 _) (y_of rfl fun w2 ⟨s7, s1, s2, s3⟩ => x_field 2 (by decide) rfl (by simp (disch := first | decide | ((repeat rw [put_size]); rw [hsz]; decide)) only [put_same])) hHeld rfl ?_
  refine take_ (i := 12) (N := some 123) (v := .int .i64 (r0 : Int)) #[true, true, true, true, true, true, true, true, true, true, true, true, true, false, false, false, false, false, false, false, false, false, false, false, false, false] rfl rfl (by kernel_rfl) (hQ 123 _) (y_of rfl fun w2 ⟨s7, s1, s2, s3⟩ => x_load (by decide) rfl (by simp (disch := first | decide | ((repeat rw [put_size]); rw [hsz]; decide)) only [put_same]) s2) hHeld rfl ?_
  refine take_ (i := 13) (N := some 124) (v := .int .i64 x10) #[true, true, true, true, true, true, true, true, true, true, true, true, true, true, false, false, false, false, false, false, false, false, false, false, false, false] rfl rfl (by kernel_rfl) (hQ 124 _) (y_of rfl fun w2 ⟨s7, s1, s2, s3⟩ => x_move rfl (by simp (disch := first | decide | ((repeat rw [put_size]); rw [hsz]; decide)) only [put_ne, h10])) hHeld rfl ?_
  refine take_ (i := 14) (N := some 125) (v := .int .i64 (lo : Int)) #[true, true, true, true, true, true, true, true, true, true, true, true, true, true, true, false, false, false, false, false, false, false, false, false, false, false] rfl rfl (by kernel_rfl) (hQ 125 _) (y_of rfl fun w2 ⟨s7, s1, s2, s3⟩ => x_add (m := (r0 : Int)) (n := x10) (.inl rfl) rfl (by simp (disch := first | decide | ((repeat rw [put_size]); rw [hsz]; decide)) only [put_ne, put_same]) (by simp (disch := first | decide | ((repeat rw [put_size]); rw [hsz]; decide)) only [put_same]) (by rw [hw1])) hHeld rfl ?_
  refine take_ (i := 15) (N := some 126) (v := .pointer (some ⟨D, 0, none⟩)) #[true, true, true, true, true, true, true, true, true, true, true, true, true, true, true, true, false, false, false, false, false, false, false, false, false, false] rfl rfl (by kernel_rfl) (hQ 126 _) (y_of rfl fun w2 ⟨s7, s1, s2, s3⟩ => x_move rfl (by simp (disch := first | decide | ((repeat rw [put_size]); rw [hsz]; decide)) only [put_ne, h0])) hHeld rfl ?_
  refine take_ (i := 16) (N := some 127) (v := .pointer (some ⟨D, 0, none⟩)) #[true, true, true, true, true, true, true, true, true, true, true, true, true, true, true, true, true, false, false, false, false, false, false, false, false, false] rfl rfl (by kernel_rfl) (hQ 127 _) (y_of rfl fun w2 ⟨s7, s1, s2, s3⟩ => x_nil rfl (by simp (disch := first | decide | ((repeat rw [put_size]); rw [hsz]; decide)) only [put_same])) hHeld rfl ?_
  refine take_ (i := 17) (N := some 128) (v := .pointer (some ⟨D, 3, none⟩)) #[true, true, true, true, true, true, true, true, true, true, true, true, true, true, true, true, true, true, false, false, false, false, false, false, false, false] rfl rfl (by kernel_rfl) (hQ 128 _) (y_of rfl fun w2 ⟨s7, s1, s2, s3⟩ => x_field 3 (by decide) rfl (by simp (disch := first | decide | ((repeat rw [put_size]); rw [hsz]; decide)) only [put_same])) hHeld rfl ?_
  refine take_ (i := 18) (N := some 129) (v := .int .i64 (r1 : Int)) #[true, true, true, true, true, true, true, true, true, true, true, true, true, true, true, true, true, true, true, false, false, false, false, false, false, false] rfl rfl (by kernel_rfl) (hQ 129 _) (y_of rfl fun w2 ⟨s7, s1, s2, s3⟩ => x_load (by decide) rfl (by simp (disch := first | decide | ((repeat rw [put_size]); rw [hsz]; decide)) only [put_same]) s3) hHeld rfl ?_
  refine take_ (i := 19) (N := some 130) (v := .int .i64 x13) #[true, true, true, true, true, true, true, true, true, true, true, true, true, true, true, true, true, true, true, true, false, false, false, false, false, false] rfl rfl (by kernel_rfl) (hQ 130 _) (y_of rfl fun w2 ⟨s7, s1, s2, s3⟩ => x_move rfl (by simp (disch := first | decide | ((repeat rw [put_size]); rw [hsz]; decide)) only [put_ne, h13])) hHeld rfl ?_
  refine take_ (i := 20) (N := some 131) (v := .int .i64 (hh : Int)) #[true, true, true, true, true, true, true, true, true, true, true, true, true, true, true, true, true, true, true, true, true, false, false, false, false, false] rfl rfl (by kernel_rfl) (hQ 131 _) (y_of rfl fun w2 ⟨s7, s1, s2, s3⟩ => x_add (m := (r1 : Int)) (n := x13) (.inl rfl) rfl (by simp (disch := first | decide | ((repeat rw [put_size]); rw [hsz]; decide)) only [put_ne, put_same]) (by simp (disch := first | decide | ((repeat rw [put_size]); rw [hsz]; decide)) only [put_same]) (by rw [hw2])) hHeld rfl ?_
  refine take_ (i := 21) (N := some 132) (v := .slice (some ad) (hh - lo) (C - lo)) #[true, true, true, true, true, true, true, true, true, true, true, true, true, true, true, true, true, true, true, true, true, true, false, false, false, false] rfl rfl (by kernel_rfl) (hQ 132 _) (y_of rfl fun w2 ⟨s7, s1, s2, s3⟩ => (x_slice (T := T) (n := n) (C := C) (l := lo) (h := hh) rfl (by simp (disch := first | decide | ((repeat rw [put_size]); rw [hsz]; decide)) only [put_ne, put_same]) (by simp (disch := first | decide | ((repeat rw [put_size]); rw [hsz]; decide)) only [put_ne, put_same]) (by simp (disch := first | decide | ((repeat rw [put_size]); rw [hsz]; decide)) only [put_same]) hlh hhC hC).trans (by rw [hsv])) hHeld rfl ?_
  refine one_ (i := 22) (N := some 133) #[true, true, true, true, true, true, true, true, true, true, true, true, true, true, true, true, true, true, true, true, true, true, true, false, false, false] rfl rfl (by kernel_rfl) (by decide) ?_
  intro K hK
  refine step_app (B := B) (E := E) (n := m0) (ec := ec) (xs := xs) rfl _ _ rfl (by simp (disch := first | decide | ((repeat rw [put_size]); rw [hsz]; decide)) only [put_ne, put_same]) (hown : w.drew.ownsRow B 5 1 _ m0 xs) ad (hh - lo) (C - lo) (l.map byteV) (by simp (disch := first | decide | ((repeat rw [put_size]); rw [hsz]; decide)) only [put_same]) (by rw [List.length_map, hl]) hnews (fun u hu => by obtain ⟨c, _, rfl⟩ := List.mem_map.1 hu; rfl) hbd hB ?_
  intro g cap w1 ha
  refine hK _ _ ⟨(ha.far (p := ⟨D, 7, none⟩) hDlt hDE).trans c7, (ha.far (p := ⟨D, 1, none⟩) hDlt hDE).trans c1, (ha.far (p := ⟨D, 2, none⟩) hDlt hDE).trans c2, (ha.far (p := ⟨D, 3, none⟩) hDlt hDE).trans c3⟩ (fun hHeld1 => ?_)
  clear hK K
  refine norm_ (a' := Act.put _ (some 133) (.slice (some ⟨g, 0, none⟩) (m0 + (hh - lo)) cap)) rfl ?_
  refine take_ (i := 23) (N := some 134) (v := .pointer (some ⟨D, 0, none⟩)) #[true, true, true, true, true, true, true, true, true, true, true, true, true, true, true, true, true, true, true, true, true, true, true, true, false, false] rfl rfl (by kernel_rfl) (hQ 134 _) (y_of rfl fun w2 ⟨s7, s1, s2, s3⟩ => x_nil rfl (by simp (disch := first | decide | ((repeat rw [put_size]); rw [hsz]; decide)) only [put_ne, put_same])) hHeld1 rfl ?_
  refine take_ (i := 24) (N := some 135) (v := .pointer (some ⟨D, 7, none⟩)) #[true, true, true, true, true, true, true, true, true, true, true, true, true, true, true, true, true, true, true, true, true, true, true, true, true, false] rfl rfl (by kernel_rfl) (hQ 135 _) (y_of rfl fun w2 ⟨s7, s1, s2, s3⟩ => x_field 7 (by decide) rfl (by simp (disch := first | decide | ((repeat rw [put_size]); rw [hsz]; decide)) only [put_same])) hHeld1 rfl ?_
  obtain ⟨A, hA⟩ : ∃ A, putAll a [(111, .pointer (some ⟨D, 0, none⟩)), (112, .pointer (some ⟨D, 0, none⟩)), (113, .pointer (some ⟨D, 0, none⟩)), (114, .pointer (some ⟨D, 7, none⟩)), (115, .slice (some ⟨E, 0, none⟩) m0 ec), (116, .pointer (some ⟨D, 0, none⟩)), (117, .pointer (some ⟨D, 0, none⟩)), (118, .pointer (some ⟨D, 1, none⟩)), (119, .slice (some ⟨T, 0, none⟩) n C), (120, .pointer (some ⟨D, 0, none⟩)), (121, .pointer (some ⟨D, 0, none⟩)), (122, .pointer (some ⟨D, 2, none⟩)), (123, .int .i64 (r0 : Int)), (124, .int .i64 x10), (125, .int .i64 (lo : Int)), (126, .pointer (some ⟨D, 0, none⟩)), (127, .pointer (some ⟨D, 0, none⟩)), (128, .pointer (some ⟨D, 3, none⟩)), (129, .int .i64 (r1 : Int)), (130, .int .i64 x13), (131, .int .i64 (hh : Int)), (132, .slice (some ad) (hh - lo) (C - lo)), (133, .slice (some ⟨g, 0, none⟩) (m0 + (hh - lo)) cap), (134, .pointer (some ⟨D, 0, none⟩)), (135, .pointer (some ⟨D, 7, none⟩))] = A := ⟨_, rfl⟩
  refine norm_ (a' := A) hA ?_
  have hE1 : A.eval (.tmp 135) = .pointer (some ⟨D, 7, none⟩) := by rw [← hA]; exact put_same _ _ _ (by (repeat rw [put_size]); rw [hsz]; decide)
  have hE2 : A.eval (.tmp 133) = .slice (some ⟨g, 0, none⟩) (m0 + (hh - lo)) cap := by rw [← hA]; simp only [putAll]; simp (disch := first | decide | ((repeat rw [put_size]); rw [hsz]; decide)) only [put_ne, put_same]
  refine last_ (i := 25) (N := none) #[true, true, true, true, true, true, true, true, true, true, true, true, true, true, true, true, true, true, true, true, true, true, true, true, true, true] rfl rfl (by kernel_rfl) (by decide) ?_
  intro K hK
  refine skip_ (by rfl) rfl (x_store (p := ⟨D, 7, none⟩) rfl hE1 hE2 ((ha.far (p := ⟨D, 7, none⟩) hDlt hDE).trans c7) ((ha.free (p := ⟨D, 7, none⟩) hDlt hDE).trans f7)) ?_
  refine hK _ _ ?_
  refine done_ (by kernel_rfl) ?_
  rw [← hA]
  exact hend g cap w1 ha

/-- The operations of takeEsc's region 29. -/
noncomputable def ops54_29 : Array Oper := (Tryz.f54.body.bind (findRegion 29)).getD #[]

set_option maxHeartbeats 4000000 in
set_option maxRecDepth 100000 in
theorem region54_29 {Q : Exit → Act → World → Prop} {a : Act} {w : World} {B D T E n C ec m0 r0 lo hh : Nat} {xs : List Value} {x10 : Int} {l : List UInt8} {ad : Addr}
    (hQ : ∀ (d : Tmp) (v : Value) (c : List PanicEntry) (a : Act) (w : World), Q (.panic c) (a.put (some d) v) w → Q (.panic c) a w) (hsz : a.tmps.size = 242)
    (h0 : a.eval (.tmp 0) = .pointer (some ⟨D, 0, none⟩)) (h10 : a.eval (.tmp 10) = .int .i64 x10)
    (c7 : w.cell? ⟨D, 7, none⟩ = some (.slice (some ⟨E, 0, none⟩) m0 ec)) (c1 : w.cell? ⟨D, 1, none⟩ = some (.slice (some ⟨T, 0, none⟩) n C)) (c2 : w.cell? ⟨D, 2, none⟩ = some (.int .i64 (r0 : Int))) (c3 : w.cell? ⟨D, 3, none⟩ = some (.int .i64 (hh : Int)))
    (f7 : w.frozen? ⟨D, 7, none⟩ = false) (hDlt : D < w.heap.size) (hDE : D ≠ E) (hw1 : IntKind.i64.wrap (x10 + (r0 : Int)) = (lo : Int))  (hlh : lo ≤ hh) (hhC : hh ≤ C) (hC : C ≤ maxLen)
    (hsv : sliced (some ⟨T, 0, none⟩) lo hh C 1 = .slice (some ad) (hh - lo) (C - lo)) (hown : w.ownsRow B 5 1 (.slice (some ⟨E, 0, none⟩) m0 ec) m0 xs) (hl : l.length = hh - lo)
    (hnews : ∀ j u, (l.map byteV)[j]? = some u → w.cell? (ad.add j) = some u) (hbd : m0 + (hh - lo) ≤ 100000) (hB : B ≤ w.heap.size)
    (hend : ∀ g cap w1, Appd B E m0 (hh - lo) xs (l.map byteV) w.drew g cap w1 → Q .normal (putAll a [(202, .pointer (some ⟨D, 0, none⟩)), (203, .pointer (some ⟨D, 0, none⟩)), (204, .pointer (some ⟨D, 0, none⟩)), (205, .pointer (some ⟨D, 7, none⟩)), (206, .slice (some ⟨E, 0, none⟩) m0 ec), (207, .pointer (some ⟨D, 0, none⟩)), (208, .pointer (some ⟨D, 0, none⟩)), (209, .pointer (some ⟨D, 1, none⟩)), (210, .slice (some ⟨T, 0, none⟩) n C), (211, .int .i64 x10), (212, .pointer (some ⟨D, 0, none⟩)), (213, .pointer (some ⟨D, 0, none⟩)), (214, .pointer (some ⟨D, 2, none⟩)), (215, .int .i64 (r0 : Int)), (216, .int .i64 (lo : Int)), (217, .pointer (some ⟨D, 0, none⟩)), (218, .pointer (some ⟨D, 0, none⟩)), (219, .pointer (some ⟨D, 3, none⟩)), (220, .int .i64 (hh : Int)), (221, .slice (some ad) (hh - lo) (C - lo)), (222, .slice (some ⟨g, 0, none⟩) (m0 + (hh - lo)) cap), (223, .pointer (some ⟨D, 0, none⟩)), (224, .pointer (some ⟨D, 7, none⟩))]) (w1.setCell ⟨D, 7, none⟩ (.slice (some ⟨g, 0, none⟩) (m0 + (hh - lo)) cap))) :
    (Code.region 29 ops54_29 true).wp Tryz.prog Q a w := by
  generalize ho : ops54_29 = ops
  conv at ho => lhs; whnf
  subst ho
  refine start_ (n := 24) (S := fun w' => w'.cell? ⟨D, 7, none⟩ = some (.slice (some ⟨E, 0, none⟩) m0 ec) ∧ w'.cell? ⟨D, 1, none⟩ = some (.slice (some ⟨T, 0, none⟩) n C) ∧ w'.cell? ⟨D, 2, none⟩ = some (.int .i64 (r0 : Int)) ∧ w'.cell? ⟨D, 3, none⟩ = some (.int .i64 (hh : Int))) (ds := [23]) #[false, false, false, false, false, false, false, false, false, false, false, false, false, false, false, false, false, false, false, false, false, false, false, false] (by kernel_rfl) rfl rfl ⟨c7, c1, c2, c3⟩ (fun hHeld => ?_)
  refine take_ (i := 0) (N := some 202) (v := .pointer (some ⟨D, 0, none⟩)) #[true, false, false, false, false, false, false, false, false, false, false, false, false, false, false, false, false, false, false, false, false, false, false, false] rfl rfl (by kernel_rfl) (hQ 202 _) (y_of rfl fun w2 ⟨s7, s1, s2, s3⟩ => x_move rfl (by simp (disch := first | decide | ((repeat rw [put_size]); rw [hsz]; decide)) only [h0])) hHeld rfl ?_
  refine take_ (i := 1) (N := some 203) (v := .pointer (some ⟨D, 0, none⟩)) #[true, true, false, false, false, false, false, false, false, false, false, false, false, false, false, false, false, false, false, false, false, false, false, false] rfl rfl (by kernel_rfl) (hQ 203 _) (y_of rfl fun w2 ⟨s7, s1, s2, s3⟩ => x_move rfl (by simp (disch := first | decide | ((repeat rw [put_size]); rw [hsz]; decide)) only [put_ne, h0])) hHeld rfl ?_
  refine take_ (i := 2) (N := some 204) (v := .pointer (some ⟨D, 0, none⟩)) #[true, true, true, false, false, false, false, false, false, false, false, false, false, false, false, false, false, false, false, false, false, false, false, false] rfl rfl (by kernel_rfl) (hQ 204 _) (y_of rfl fun w2 ⟨s7, s1, s2, s3⟩ => x_nil rfl (by simp (disch := first | decide | ((repeat rw [put_size]); rw [hsz]; decide)) only [put_same])) hHeld rfl ?_
  refine take_ (i := 3) (N := some 205) (v := .pointer (some ⟨D, 7, none⟩)) #[true, true, true, true, false, false, false, false, false, false, false, false, false, false, false, false, false, false, false, false, false, false, false, false] rfl rfl (by kernel_rfl) (hQ 205 _) (y_of rfl fun w2 ⟨s7, s1, s2, s3⟩ => x_field 7 (by decide) rfl (by simp (disch := first | decide | ((repeat rw [put_size]); rw [hsz]; decide)) only [put_same])) hHeld rfl ?_
  refine take_ (i := 4) (N := some 206) (v := .slice (some ⟨E, 0, none⟩) m0 ec) #[true, true, true, true, true, false, false, false, false, false, false, false, false, false, false, false, false, false, false, false, false, false, false, false] rfl rfl (by kernel_rfl) (hQ 206 _) (y_of rfl fun w2 ⟨s7, s1, s2, s3⟩ => x_load (by decide) rfl (by simp (disch := first | decide | ((repeat rw [put_size]); rw [hsz]; decide)) only [put_same]) s7) hHeld rfl ?_
  refine take_ (i := 5) (N := some 207) (v := .pointer (some ⟨D, 0, none⟩)) #[true, true, true, true, true, true, false, false, false, false, false, false, false, false, false, false, false, false, false, false, false, false, false, false] rfl rfl (by kernel_rfl) (hQ 207 _) (y_of rfl fun w2 ⟨s7, s1, s2, s3⟩ => x_move rfl (by simp (disch := first | decide | ((repeat rw [put_size]); rw [hsz]; decide)) only [put_ne, h0])) hHeld rfl ?_
  refine take_ (i := 6) (N := some 208) (v := .pointer (some ⟨D, 0, none⟩)) #[true, true, true, true, true, true, true, false, false, false, false, false, false, false, false, false, false, false, false, false, false, false, false, false] rfl rfl (by kernel_rfl) (hQ 208 _) (y_of rfl fun w2 ⟨s7, s1, s2, s3⟩ => x_nil rfl (by simp (disch := first | decide | ((repeat rw [put_size]); rw [hsz]; decide)) only [put_same])) hHeld rfl ?_
  refine take_ (i := 7) (N := some 209) (v := .pointer (some ⟨D, 1, none⟩)) #[true, true, true, true, true, true, true, true, false, false, false, false, false, false, false, false, false, false, false, false, false, false, false, false] rfl rfl (by kernel_rfl) (hQ 209 _) (y_of rfl fun w2 ⟨s7, s1, s2, s3⟩ => x_field 1 (by decide) rfl (by simp (disch := first | decide | ((repeat rw [put_size]); rw [hsz]; decide)) only [put_same])) hHeld rfl ?_
  refine take_ (i := 8) (N := some 210) (v := .slice (some ⟨T, 0, none⟩) n C) #[true, true, true, true, true, true, true, true, true, false, false, false, false, false, false, false, false, false, false, false, false, false, false, false] rfl rfl (by kernel_rfl) (hQ 210 _) (y_of rfl fun w2 ⟨s7, s1, s2, s3⟩ => x_load (by decide) rfl (by simp (disch := first | decide | ((repeat rw [put_size]); rw [hsz]; decide)) only [put_same]) s1) hHeld rfl ?_
  refine take_ (i := 9) (N := some 211) (v := .int .i64 x10) #[true, true, true, true, true, true, true, true, true, true, false, false, false, false, false, false, false, false, false, false, false, false, false, false] rfl rfl (by kernel_rfl) (hQ 211 _) (y_of rfl fun w2 ⟨s7, s1, s2, s3⟩ => x_move rfl (by simp (disch := first | decide | ((repeat rw [put_size]); rw [hsz]; decide)) only [put_ne, h10])) hHeld rfl ?_
  refine take_ (i := 10) (N := some 212) (v := .pointer (some ⟨D, 0, none⟩)) #[true, true, true, true, true, true, true, true, true, true, true, false, false, false, false, false, false, false, false, false, false, false, false, false] rfl rfl (by kernel_rfl) (hQ 212 _) (y_of rfl fun w2 ⟨s7, s1, s2, s3⟩ => x_move rfl (by simp (disch := first | decide | ((repeat rw [put_size]); rw [hsz]; decide)) only [put_ne, h0])) hHeld rfl ?_
  refine take_ (i := 11) (N := some 213) (v := .pointer (some ⟨D, 0, none⟩)) #[true, true, true, true, true, true, true, true, true, true, true, true, false, false, false, false, false, false, false, false, false, false, false, false] rfl rfl (by kernel_rfl) (hQ 213 _) (y_of rfl fun w2 ⟨s7, s1, s2, s3⟩ => x_nil rfl (by simp (disch := first | decide | ((repeat rw [put_size]); rw [hsz]; decide)) only [put_same])) hHeld rfl ?_
  refine take_ (i := 12) (N := some 214) (v := .pointer (some ⟨D, 2, none⟩)) #[true, true, true, true, true, true, true, true, true, true, true, true, true, false, false, false, false, false, false, false, false, false, false, false] rfl rfl (by kernel_rfl) (hQ 214 _) (y_of rfl fun w2 ⟨s7, s1, s2, s3⟩ => x_field 2 (by decide) rfl (by simp (disch := first | decide | ((repeat rw [put_size]); rw [hsz]; decide)) only [put_same])) hHeld rfl ?_
  refine take_ (i := 13) (N := some 215) (v := .int .i64 (r0 : Int)) #[true, true, true, true, true, true, true, true, true, true, true, true, true, true, false, false, false, false, false, false, false, false, false, false] rfl rfl (by kernel_rfl) (hQ 215 _) (y_of rfl fun w2 ⟨s7, s1, s2, s3⟩ => x_load (by decide) rfl (by simp (disch := first | decide | ((repeat rw [put_size]); rw [hsz]; decide)) only [put_same]) s2) hHeld rfl ?_
  refine take_ (i := 14) (N := some 216) (v := .int .i64 (lo : Int)) #[true, true, true, true, true, true, true, true, true, true, true, true, true, true, true, false, false, false, false, false, false, false, false, false] rfl rfl (by kernel_rfl) (hQ 216 _) (y_of rfl fun w2 ⟨s7, s1, s2, s3⟩ => x_add (m := x10) (n := (r0 : Int)) (.inl rfl) rfl (by simp (disch := first | decide | ((repeat rw [put_size]); rw [hsz]; decide)) only [put_ne, put_same]) (by simp (disch := first | decide | ((repeat rw [put_size]); rw [hsz]; decide)) only [put_same]) (by rw [hw1])) hHeld rfl ?_
  refine take_ (i := 15) (N := some 217) (v := .pointer (some ⟨D, 0, none⟩)) #[true, true, true, true, true, true, true, true, true, true, true, true, true, true, true, true, false, false, false, false, false, false, false, false] rfl rfl (by kernel_rfl) (hQ 217 _) (y_of rfl fun w2 ⟨s7, s1, s2, s3⟩ => x_move rfl (by simp (disch := first | decide | ((repeat rw [put_size]); rw [hsz]; decide)) only [put_ne, h0])) hHeld rfl ?_
  refine take_ (i := 16) (N := some 218) (v := .pointer (some ⟨D, 0, none⟩)) #[true, true, true, true, true, true, true, true, true, true, true, true, true, true, true, true, true, false, false, false, false, false, false, false] rfl rfl (by kernel_rfl) (hQ 218 _) (y_of rfl fun w2 ⟨s7, s1, s2, s3⟩ => x_nil rfl (by simp (disch := first | decide | ((repeat rw [put_size]); rw [hsz]; decide)) only [put_same])) hHeld rfl ?_
  refine take_ (i := 17) (N := some 219) (v := .pointer (some ⟨D, 3, none⟩)) #[true, true, true, true, true, true, true, true, true, true, true, true, true, true, true, true, true, true, false, false, false, false, false, false] rfl rfl (by kernel_rfl) (hQ 219 _) (y_of rfl fun w2 ⟨s7, s1, s2, s3⟩ => x_field 3 (by decide) rfl (by simp (disch := first | decide | ((repeat rw [put_size]); rw [hsz]; decide)) only [put_same])) hHeld rfl ?_
  refine take_ (i := 18) (N := some 220) (v := .int .i64 (hh : Int)) #[true, true, true, true, true, true, true, true, true, true, true, true, true, true, true, true, true, true, true, false, false, false, false, false] rfl rfl (by kernel_rfl) (hQ 220 _) (y_of rfl fun w2 ⟨s7, s1, s2, s3⟩ => x_load (by decide) rfl (by simp (disch := first | decide | ((repeat rw [put_size]); rw [hsz]; decide)) only [put_same]) s3) hHeld rfl ?_
  refine take_ (i := 19) (N := some 221) (v := .slice (some ad) (hh - lo) (C - lo)) #[true, true, true, true, true, true, true, true, true, true, true, true, true, true, true, true, true, true, true, true, false, false, false, false] rfl rfl (by kernel_rfl) (hQ 221 _) (y_of rfl fun w2 ⟨s7, s1, s2, s3⟩ => (x_slice (T := T) (n := n) (C := C) (l := lo) (h := hh) rfl (by simp (disch := first | decide | ((repeat rw [put_size]); rw [hsz]; decide)) only [put_ne, put_same]) (by simp (disch := first | decide | ((repeat rw [put_size]); rw [hsz]; decide)) only [put_ne, put_same]) (by simp (disch := first | decide | ((repeat rw [put_size]); rw [hsz]; decide)) only [put_same]) hlh hhC hC).trans (by rw [hsv])) hHeld rfl ?_
  refine one_ (i := 20) (N := some 222) #[true, true, true, true, true, true, true, true, true, true, true, true, true, true, true, true, true, true, true, true, true, false, false, false] rfl rfl (by kernel_rfl) (by decide) ?_
  intro K hK
  refine step_app (B := B) (E := E) (n := m0) (ec := ec) (xs := xs) rfl _ _ rfl (by simp (disch := first | decide | ((repeat rw [put_size]); rw [hsz]; decide)) only [put_ne, put_same]) (hown : w.drew.ownsRow B 5 1 _ m0 xs) ad (hh - lo) (C - lo) (l.map byteV) (by simp (disch := first | decide | ((repeat rw [put_size]); rw [hsz]; decide)) only [put_same]) (by rw [List.length_map, hl]) hnews (fun u hu => by obtain ⟨c, _, rfl⟩ := List.mem_map.1 hu; rfl) hbd hB ?_
  intro g cap w1 ha
  refine hK _ _ ⟨(ha.far (p := ⟨D, 7, none⟩) hDlt hDE).trans c7, (ha.far (p := ⟨D, 1, none⟩) hDlt hDE).trans c1, (ha.far (p := ⟨D, 2, none⟩) hDlt hDE).trans c2, (ha.far (p := ⟨D, 3, none⟩) hDlt hDE).trans c3⟩ (fun hHeld1 => ?_)
  clear hK K
  refine norm_ (a' := Act.put _ (some 222) (.slice (some ⟨g, 0, none⟩) (m0 + (hh - lo)) cap)) rfl ?_
  refine take_ (i := 21) (N := some 223) (v := .pointer (some ⟨D, 0, none⟩)) #[true, true, true, true, true, true, true, true, true, true, true, true, true, true, true, true, true, true, true, true, true, true, false, false] rfl rfl (by kernel_rfl) (hQ 223 _) (y_of rfl fun w2 ⟨s7, s1, s2, s3⟩ => x_nil rfl (by simp (disch := first | decide | ((repeat rw [put_size]); rw [hsz]; decide)) only [put_ne, put_same])) hHeld1 rfl ?_
  refine take_ (i := 22) (N := some 224) (v := .pointer (some ⟨D, 7, none⟩)) #[true, true, true, true, true, true, true, true, true, true, true, true, true, true, true, true, true, true, true, true, true, true, true, false] rfl rfl (by kernel_rfl) (hQ 224 _) (y_of rfl fun w2 ⟨s7, s1, s2, s3⟩ => x_field 7 (by decide) rfl (by simp (disch := first | decide | ((repeat rw [put_size]); rw [hsz]; decide)) only [put_same])) hHeld1 rfl ?_
  obtain ⟨A, hA⟩ : ∃ A, putAll a [(202, .pointer (some ⟨D, 0, none⟩)), (203, .pointer (some ⟨D, 0, none⟩)), (204, .pointer (some ⟨D, 0, none⟩)), (205, .pointer (some ⟨D, 7, none⟩)), (206, .slice (some ⟨E, 0, none⟩) m0 ec), (207, .pointer (some ⟨D, 0, none⟩)), (208, .pointer (some ⟨D, 0, none⟩)), (209, .pointer (some ⟨D, 1, none⟩)), (210, .slice (some ⟨T, 0, none⟩) n C), (211, .int .i64 x10), (212, .pointer (some ⟨D, 0, none⟩)), (213, .pointer (some ⟨D, 0, none⟩)), (214, .pointer (some ⟨D, 2, none⟩)), (215, .int .i64 (r0 : Int)), (216, .int .i64 (lo : Int)), (217, .pointer (some ⟨D, 0, none⟩)), (218, .pointer (some ⟨D, 0, none⟩)), (219, .pointer (some ⟨D, 3, none⟩)), (220, .int .i64 (hh : Int)), (221, .slice (some ad) (hh - lo) (C - lo)), (222, .slice (some ⟨g, 0, none⟩) (m0 + (hh - lo)) cap), (223, .pointer (some ⟨D, 0, none⟩)), (224, .pointer (some ⟨D, 7, none⟩))] = A := ⟨_, rfl⟩
  refine norm_ (a' := A) hA ?_
  have hE1 : A.eval (.tmp 224) = .pointer (some ⟨D, 7, none⟩) := by rw [← hA]; exact put_same _ _ _ (by (repeat rw [put_size]); rw [hsz]; decide)
  have hE2 : A.eval (.tmp 222) = .slice (some ⟨g, 0, none⟩) (m0 + (hh - lo)) cap := by rw [← hA]; simp only [putAll]; simp (disch := first | decide | ((repeat rw [put_size]); rw [hsz]; decide)) only [put_ne, put_same]
  refine last_ (i := 23) (N := none) #[true, true, true, true, true, true, true, true, true, true, true, true, true, true, true, true, true, true, true, true, true, true, true, true] rfl rfl (by kernel_rfl) (by decide) ?_
  intro K hK
  refine skip_ (by rfl) rfl (x_store (p := ⟨D, 7, none⟩) rfl hE1 hE2 ((ha.far (p := ⟨D, 7, none⟩) hDlt hDE).trans c7) ((ha.free (p := ⟨D, 7, none⟩) hDlt hDE).trans f7)) ?_
  refine hK _ _ ?_
  refine done_ (by kernel_rfl) ?_
  rw [← hA]
  exact hend g cap w1 ha
end Go.Proofs.YtejlokdcocacaaaGreatDoor
