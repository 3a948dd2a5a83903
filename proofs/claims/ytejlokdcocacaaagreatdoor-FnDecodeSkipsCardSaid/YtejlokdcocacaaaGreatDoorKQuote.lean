/- strconv.QuoteRune at the eight runes that the escapers ask it for, and the escapers' tables. -/
import Derived.Test.YtejlokdcocacaaaGreatDoorKBase
import Derived.Lib.AppendStr
import Derived.Lib.OthersKept
namespace Go.Proofs.YtejlokdcocacaaaGreatDoor
open Go.RowKit

/-- A buffer of bytes that a call owns from block B on, and what became of the rest since the world W0. -/
def OB (B : Nat) (v : Value) (n : Nat) (xs : List Value) (W0 w : World) : Prop := w.ownsRow B 5 1 v n xs ∧ Below B W0 w ∧ B ≤ w.heap.size

theorem info5 : (Tryz.prog.info? 5).map (fun i => (i.zero, i.size, i.bytes)) = some (some (.int .u8 0), 1, 1) := by kernel_rfl

theorem OB.alloc {B : Nat} {v : Value} {n : Nat} {xs : List Value} {W0 w : World} (h : OB B v n xs W0 w) (o : Obj) : OB B v n xs W0 (w.alloc o) :=
  ⟨h.1.alloc o, h.2.1.alloc h.2.2 o, Nat.le_trans h.2.2 ((Below.refl 0 w).alloc (Nat.zero_le _) o).size⟩
theorem OB.grown {B : Nat} {v v' : Value} {n n' : Nat} {xs xs' : List Value} {W0 w w' : World} (h : OB B v n xs W0 w) (ho : w'.ownsRow B 5 1 v' n' xs') (hg : w.grownBy w' v.ownBlock) : OB B v' n' xs' W0 w' :=
  ⟨ho, h.2.1.grown hg h.2.2 (fun k hk => (h.1.lt k hk).1), Nat.le_trans h.2.2 hg.size⟩
theorem OB.drewN {B : Nat} {v : Value} {n : Nat} {xs : List Value} {W0 w : World} (h : OB B v n xs W0 w) (q : Nat) : OB B v n xs W0 (w.drewN q) :=
  ⟨h.1, ⟨h.2.1.os, h.2.1.tape, h.2.1.output, h.2.1.size, h.2.1.block⟩, h.2.2⟩

/-- 'buf = append(buf, c)'. -/
theorem app_byte {ops : Array Oper} {rest : List Oper} {o : Oper} {a : Act} {Q : Exit → Act → World → Prop} (hgd : o.guard = none) (s x : Operand)
    (ho : o.op = .call { callee := .builtin .append, args := #[s, x], argTypes := #[69, 69] })
    (B : Nat) (v : Value) (n : Nat) (xs : List Value) (hs : a.eval s = v) (W0 w0 : World) (c : Int) (hb : OB B v n xs W0 w0)
    (hx : a.eval x = .slice (some ⟨w0.heap.size, 0, none⟩) 1 1) (hlen : n + 1 ≤ 100000000000000)
    (h : ∀ v' w', OB B v' (n + 1) (xs ++ [.int .u8 c]) W0 w' → wpList Tryz.prog ops Q rest (a.put o.dst v') w') : wpList Tryz.prog ops Q (o :: rest) a (w0.alloc (.cells #[.int .u8 c] 5)) := by
  obtain ⟨i0, hi, hz0, hz1, hz2⟩ := info_parts info5
  have hb' := hb.alloc (.cells #[.int .u8 c] 5)
  refine wpList_append_own _ hgd s x 69 ho B 5 i0 (.int .u8 0) 1 1 Tryz.underlying69 hi hz0 hz1 hz2 rfl (by decide) v n xs hs hb'.1 ⟨w0.heap.size, 0, none⟩ 1 1 [.int .u8 c] hx rfl ?_ ?_ (by unfold maxLen; omega) (by omega) hb'.2.2 ?_
  · intro j u hj
    match j, hj with
    | 0, hj => simp at hj; subst hj; simp [Addr.add]
    | (j + 1), hj => simp at hj
  · intro u hu; simp at hu; subst hu; rfl
  · intro v' w' ho' hg _
    exact h v' w' (hb'.grown ho' hg)

/-- 'buf = append(buf, "\\x"...)'. -/
theorem app_text {ops : Array Oper} {rest : List Oper} {o : Oper} {a : Act} {Q : Exit → Act → World → Prop} {w : World} (hgd : o.guard = none) (sl x : Operand)
    (ho : o.op = .call { callee := .builtin .append, args := #[sl, x], argTypes := #[69, 9] })
    (B : Nat) (v : Value) (n : Nat) (xs : List Value) (hs : a.eval sl = v) (W0 : World) (hb : OB B v n xs W0 w) (s : ByteArray) (hx : a.eval x = .string s) (hlen : n + s.size ≤ 100000000000000)
    (h : ∀ v' w', OB B v' (n + s.size) (xs ++ Lib.strCells s) W0 w' → wpList Tryz.prog ops Q rest (a.put o.dst v') w') : wpList Tryz.prog ops Q (o :: rest) a w := by
  obtain ⟨i0, hi, hz0, hz1, hz2⟩ := info_parts info5
  refine Lib.wpList_append_own_string w hgd sl x 69 9 ho B 5 i0 Tryz.underlying69 Tryz.underlying9 hi hz0 hz1 hz2 v n xs hs hb.1 s hx (by unfold maxLen; omega) (by omega) hb.2.2 ?_
  intro v' w' ho' hg _
  exact h v' w' (hb.grown ho' hg)

/-- What stands between the quotes. -/
def escR (r : Int) : List Value := if r = 92 then [.int .u8 92, .int .u8 92] else if r = 10 then [.int .u8 92, .int .u8 110] else if r = 13 then [.int .u8 92, .int .u8 114] else if r = 9 then [.int .u8 92, .int .u8 116] else [.int .u8 r]

set_option maxHeartbeats 1000000 in
set_option maxRecDepth 100000 in
theorem isPrint_yes (r : Int) (w : World) (h : r = 44 ∨ r = 61 ∨ r = 32 ∨ r = 34) :
    Calls Tryz.prog 180 #[.int .i32 r] w fun e w' => e = .returned (.bool true) ∧ w' = w := by
  rcases h with rfl | rfl | rfl | rfl
  all_goals
    go_enter Tryz.func180, Tryz.ntmps180
    go_wp2
    go_ret
    exact ⟨rfl, rfl⟩

set_option maxHeartbeats 1000000 in
set_option maxRecDepth 100000 in
theorem isPrint_no (r : Int) (w : World) (h : r = 10 ∨ r = 13 ∨ r = 9) :
    Calls Tryz.prog 180 #[.int .i32 r] w fun e w' => e = .returned (.bool false) ∧ w' = w := by
  rcases h with rfl | rfl | rfl
  all_goals
    go_enter Tryz.func180, Tryz.ntmps180
    go_wp2
    go_ret
    exact ⟨rfl, rfl⟩

set_option maxHeartbeats 1000000 in
set_option maxRecDepth 100000 in
theorem appendRune_any (r : Int) (h : r = 44 ∨ r = 61 ∨ r = 32 ∨ r = 34) (B : Nat) (v : Value) (n : Nat) (xs : List Value) (W0 w : World) (hb : OB B v n xs W0 w) (hlen : n ≤ 100) :
    Calls Tryz.prog 182 #[v, .int .i32 r] w fun e w' => ∃ v', e = .returned v' ∧ OB B v' (n + 1) (xs ++ [.int .u8 r]) W0 w' := by
  go_enter Tryz.func182, Tryz.ntmps182
  rcases h with rfl | rfl | rfl | rfl
  all_goals
    go_wp2_with (at_builtin; refine app_byte rfl _ _ rfl B v n xs rfl W0 _ _ hb rfl (by omega) ?_; intro _ _ hb2)
    go_ret
    exact ⟨_, rfl, hb2⟩

set_option maxHeartbeats 1000000 in
set_option maxRecDepth 100000 in
theorem escapedRune_any (r : Int) (h : r = 44 ∨ r = 61 ∨ r = 32 ∨ r = 34 ∨ r = 92 ∨ r = 10 ∨ r = 13 ∨ r = 9) (B : Nat) (v : Value) (n : Nat) (xs : List Value) (W0 w : World) (hb : OB B v n xs W0 w) (hlen : n ≤ 50) :
    Calls Tryz.prog 175 #[v, .int .i32 r, .int .u8 39, .bool false, .bool false] w fun e w' => ∃ v', e = .returned v' ∧ OB B v' (n + (escR r).length) (xs ++ escR r) W0 w' := by
  go_enter Tryz.func175, Tryz.ntmps175
  rcases h with rfl | rfl | rfl | rfl | rfl | rfl | rfl | rfl
  · go_wp2_with (first | (go_at_call 180; refine (isPrint_yes _ _ (by omega)).mono ?_; rintro e w' ⟨rfl, rfl⟩) | (go_at_call 182; refine (appendRune_any _ (by omega) B v n xs W0 _ hb (by omega)).mono ?_; rintro e w2 ⟨v2, rfl, hb2⟩))
    go_ret
    exact ⟨_, rfl, hb2⟩
  · go_wp2_with (first | (go_at_call 180; refine (isPrint_yes _ _ (by omega)).mono ?_; rintro e w' ⟨rfl, rfl⟩) | (go_at_call 182; refine (appendRune_any _ (by omega) B v n xs W0 _ hb (by omega)).mono ?_; rintro e w2 ⟨v2, rfl, hb2⟩))
    go_ret
    exact ⟨_, rfl, hb2⟩
  · go_wp2_with (first | (go_at_call 180; refine (isPrint_yes _ _ (by omega)).mono ?_; rintro e w' ⟨rfl, rfl⟩) | (go_at_call 182; refine (appendRune_any _ (by omega) B v n xs W0 _ hb (by omega)).mono ?_; rintro e w2 ⟨v2, rfl, hb2⟩))
    go_ret
    exact ⟨_, rfl, hb2⟩
  · go_wp2_with (first | (go_at_call 180; refine (isPrint_yes _ _ (by omega)).mono ?_; rintro e w' ⟨rfl, rfl⟩) | (go_at_call 182; refine (appendRune_any _ (by omega) B v n xs W0 _ hb (by omega)).mono ?_; rintro e w2 ⟨v2, rfl, hb2⟩))
    go_ret
    exact ⟨_, rfl, hb2⟩
  · go_wp2_with (at_builtin; refine app_byte rfl _ _ rfl B _ _ _ rfl W0 _ _ (by assumption) rfl (by omega) ?_; intro _ _ hb)
    go_ret
    exact ⟨_, rfl, by simpa [escR, List.append_assoc] using hb⟩
  all_goals
    go_wp2_with (first | (go_at_call 180; refine (isPrint_no _ _ (by omega)).mono ?_; rintro e w' ⟨rfl, rfl⟩) | (at_builtin; refine app_text rfl _ _ rfl B _ _ _ rfl W0 (by assumption) _ rfl (by simp only [ByteArray.size, List.size_toArray, List.length]; omega) ?_; intro _ _ hb))
    go_ret
    exact ⟨_, rfl, by simpa [escR, Lib.strCells, ByteArray.size] using hb⟩

set_option maxHeartbeats 1000000 in
set_option maxRecDepth 100000 in
theorem validRune_any (r : Int) (h0 : 0 ≤ r) (h1 : r < 200) (w : World) :
    Calls Tryz.prog 174 #[.int .i32 r] w fun e w' => e = .returned (.bool true) ∧ w' = w := by
  have hd0 : decide (0 ≤ r) = true := by simpa using h0
  go_enter Tryz.func174, Tryz.ntmps174
  go_wp2
  go_ret
  exact ⟨rfl, rfl⟩

/-- What stands between the quotes, as bytes. -/
def escB (r : Int) : List UInt8 := if r = 92 then [92, 92] else if r = 10 then [92, 110] else if r = 13 then [92, 114] else if r = 9 then [92, 116] else [UInt8.ofNat r.toNat]
theorem escB_eq (r : Int) (h : r = 44 ∨ r = 61 ∨ r = 32 ∨ r = 34 ∨ r = 92 ∨ r = 10 ∨ r = 13 ∨ r = 9) : escR r = (escB r).map byteV := by
  rcases h with rfl | rfl | rfl | rfl | rfl | rfl | rfl | rfl <;> rfl
theorem escB_len (r : Int) : (escB r).length ≤ 2 := by
  unfold escB
  split
  · simp
  split
  · simp
  split
  · simp
  split <;> simp

theorem strOfNums_bytes (l : List UInt8) : strOfNums (l.map fun c => (c.toNat : Int)) = ⟨l.toArray⟩ := by
  unfold strOfNums
  rw [List.map_map, show ((fun n : Int => UInt8.ofNat n.toNat) ∘ fun c : UInt8 => (c.toNat : Int)) = id from funext fun c => by simp, List.map_id]

/-- 'string(b)'. -/
theorem run_bytes_string {w : World} {v : Value} {l : List UInt8} (h : BytesIs w v l) : (convert 69 9 v).run Tryz.prog w = .ok (.string ⟨l.toArray⟩) w := by
  obtain ⟨b, o, c, rfl, _, _, _, hc⟩ := h
  rw [← strOfNums_bytes]
  refine run_convert_bytes_arg w 69 5 Tryz.underlying69 Tryz.underlying5 b o l.length c _ (by simp) ?_ 9 Tryz.underlying9
  intro i hi
  rw [hc i hi]
  simp [List.getD, hi]

/-- What a call owns, and is not nil, reads as its bytes. -/
theorem bytes_own {w : World} {B n : Nat} {v : Value} {l : List UInt8} (h : w.ownsRow B 5 1 v n (l.map byteV)) (hn : 0 < n) : BytesIs w v l := by
  obtain ⟨h1, ⟨rfl, h2⟩ | ⟨g, cap, cur, rfl, hb, hg, hcc, hm, hs, ht⟩⟩ := h
  · omega
  · have hl : l.length = n := by simpa using h1
    refine ⟨g, 0, cap, by rw [hl], by omega, hm, lt_of_block hg, fun i hi => ?_⟩
    rw [Nat.zero_add, cell_of_row w g i _ _ _ hg]
    have h3 : (cur.toList.take (n * 1))[i]? = some (byteV l[i]) := by rw [ht]; simp [hi]
    rw [List.getElem?_take, if_pos (by omega)] at h3
    simpa [byteV] using h3

set_option maxHeartbeats 1000000 in
set_option maxRecDepth 100000 in
theorem appendQuotedRune_any (r : Int) (h : r = 44 ∨ r = 61 ∨ r = 32 ∨ r = 34 ∨ r = 92 ∨ r = 10 ∨ r = 13 ∨ r = 9) (w : World) :
    Calls Tryz.prog 165 #[.slice none 0 0, .int .i32 r, .int .u8 39, .bool false, .bool false] w fun e w' => ∃ v', e = .returned v' ∧ BytesIs w' v' (39 :: (escB r ++ [39])) ∧ Below w.heap.size w w' := by
  have h0 : OB w.heap.size (.slice none 0 0) 0 [] w w := ⟨World.ownsRow_nil _ _ _ _, Below.refl _ _, Nat.le_refl _⟩
  have hlen := escB_len r
  have hE := escB_eq r h
  have H0 := hid h0; clear h0
  have HL := hid hlen; clear hlen
  have HE := hid hE; clear hE
  have HR := hid h; clear h
  have r0 : 0 ≤ r := by have := HR.out; omega
  have r1 : r < 200 := by have := HR.out; omega
  go_enter Tryz.func165, Tryz.ntmps165
  go_wp2_with (at_builtin; refine app_byte rfl _ _ rfl w.heap.size (.slice none 0 0) 0 [] rfl w _ _ H0.out rfl (by omega) ?_; intro v1 w1 h1)
  have H1 := hid h1; clear h1
  refine (validRune_any r r0 r1 _).mono ?_; rintro e w' ⟨rfl, rfl⟩
  go_wp2_with fail
  refine (escapedRune_any r HR.out _ _ _ _ _ _ H1.out (by omega)).mono ?_; rintro e w2 ⟨v2, rfl, h2⟩
  have hr : (escR r).length ≤ 2 := by rw [HE.out, List.length_map]; exact HL.out
  have H2 := hid h2; clear h2
  go_wp2_with (at_builtin; refine app_byte rfl _ _ rfl w.heap.size v2 (0 + 1 + (escR r).length) ([] ++ [.int .u8 39] ++ escR r) rfl w _ _ H2.out rfl (by omega) ?_; intro v3 w3 h3)
  go_ret
  refine ⟨v3, rfl, bytes_own (B := w.heap.size) (n := 0 + 1 + (escR r).length + 1) ?_ (by omega), h3.2.1⟩
  have h4 := h3.1
  rw [HE.out] at h4
  rw [HE.out]
  simpa [byteV] using h4

set_option maxHeartbeats 1000000 in
set_option maxRecDepth 100000 in
theorem quoteRune_any (r : Int) (h : r = 44 ∨ r = 61 ∨ r = 32 ∨ r = 34 ∨ r = 92 ∨ r = 10 ∨ r = 13 ∨ r = 9) (w : World) :
    Calls Tryz.prog 141 #[.int .i32 r] w fun e w' => e = .returned (.string ⟨(39 :: (escB r ++ [39])).toArray⟩) ∧ Below w.heap.size w w' := by
  have HR := hid h; clear h
  go_enter Tryz.func141, Tryz.ntmps141
  go_wp2_with (go_at_call 159; go_in)
  refine (appendQuotedRune_any r HR.out _).mono ?_; rintro e w1 ⟨v1, rfl, h1, hb⟩
  have hs := run_bytes_string h1
  have H1 := hid h1; clear h1
  go_wp2
  go_ret
  exact ⟨rfl, hb⟩

/-- strings.TrimPrefix(s, "\\") at the runes' texts. -/
def trimB (l : List UInt8) : List UInt8 := match l with | 92 :: r => r | l => l

end Go.Proofs.YtejlokdcocacaaaGreatDoor

/- The escapers: newEscaper's table from an escaped byte to what it stands for. -/
namespace Go.Proofs.YtejlokdcocacaaaGreatDoor
open Go.RowKit

/-- An escaper's cells. -/
def escCells (tab f : Nat → Int) (z : ByteArray) : Array Value := (((List.range 256).map fun i => Value.int .u8 (tab i)) ++ (((List.range 256).map fun i => Value.int .u8 (f i)) ++ [Value.string z])).toArray

theorem escCells_size (tab f : Nat → Int) (z : ByteArray) : (escCells tab f z).size = 513 := by simp [escCells]
theorem escCells_tab (tab f : Nat → Int) (z : ByteArray) (i : Nat) (h : i < 256) : (escCells tab f z)[i]? = some (.int .u8 (tab i)) := by
  simp [escCells, List.getElem?_append, h]
theorem escCells_rev (tab f : Nat → Int) (z : ByteArray) (i : Nat) (h : i < 256) : (escCells tab f z)[256 + i]? = some (.int .u8 (f i)) := by
  simp [escCells, List.getElem?_append, h]
theorem escCells_setTab (tab f : Nat → Int) (z : ByteArray) (c : Nat) (v : Int) (hc : c < 256) :
    (escCells tab f z).setIfInBounds c (.int .u8 v) = escCells (fun i => if i = c then v else tab i) f z := by
  apply Array.ext_getElem?
  intro i
  rw [Array.getElem?_setIfInBounds, escCells_size]
  by_cases hi : c = i
  · subst hi
    rw [if_pos rfl, if_pos (by omega), escCells_tab _ _ _ _ hc]
    simp
  · rw [if_neg hi]
    by_cases h : i < 256
    · rw [escCells_tab _ _ _ _ h, escCells_tab _ _ _ _ h]
      simp [Ne.symm hi]
    · simp [escCells, List.getElem?_append, h]
theorem escCells_setRev (tab f : Nat → Int) (z : ByteArray) (c : Nat) (v : Int) (hc : c < 256) :
    (escCells tab f z).setIfInBounds (256 + c) (.int .u8 v) = escCells tab (fun i => if i = c then v else f i) z := by
  apply Array.ext_getElem?
  intro i
  rw [Array.getElem?_setIfInBounds, escCells_size]
  by_cases hi : 256 + c = i
  · subst hi
    rw [if_pos rfl, if_pos (by omega), escCells_rev _ _ _ _ hc]
    simp
  · rw [if_neg hi]
    by_cases h : i < 256
    · rw [escCells_tab _ _ _ _ h, escCells_tab _ _ _ _ h]
    · by_cases h2 : i < 512
      · obtain ⟨j, rfl⟩ : ∃ j, i = 256 + j := ⟨i - 256, by omega⟩
        rw [escCells_rev _ _ _ _ (by omega), escCells_rev _ _ _ _ (by omega)]
        have : ¬ j = c := by omega
        simp [this]
      · simp [escCells, List.getElem?_append, h, show ¬ i - 256 < 256 by omega]
theorem escCells_setZ (tab f : Nat → Int) (z z' : ByteArray) : (escCells tab f z).setIfInBounds 512 (.string z') = escCells tab f z' := by
  apply Array.ext_getElem?
  intro i
  rw [Array.getElem?_setIfInBounds, escCells_size]
  by_cases hi : 512 = i
  · subst hi
    simp [escCells]
  · rw [if_neg hi]
    by_cases h : i < 256
    · rw [escCells_tab _ _ _ _ h, escCells_tab _ _ _ _ h]
    · by_cases h2 : i < 512
      · obtain ⟨j, rfl⟩ : ∃ j, i = 256 + j := ⟨i - 256, by omega⟩
        rw [escCells_rev _ _ _ _ (by omega), escCells_rev _ _ _ _ (by omega)]
      · have h3 : ∀ z : ByteArray, (escCells tab f z)[i]? = none := fun z => Array.getElem?_eq_none (by rw [escCells_size]; omega)
        rw [h3, h3]

/-- Block X holds an escaper whose way back is f. -/
def EscIs (w : World) (X : Nat) (f : Nat → Int) : Prop := ∃ tab z, w.heap[X]? = some (.cells (escCells tab f z) 124 (0, 0))

theorem EscIs.cell {w : World} {X : Nat} {f : Nat → Int} (h : EscIs w X f) (c : Nat) (hc : c < 256) : w.cell? ⟨X, 256 + c, none⟩ = some (.int .u8 (f c)) := by
  obtain ⟨tab, z, h⟩ := h
  rw [cell_of_row w X _ _ _ _ h, escCells_rev _ _ _ _ hc]
theorem EscIs.there {w : World} {X : Nat} {f : Nat → Int} (h : EscIs w X f) : (∀ i, i < 256 → ∃ v, w.cell? ⟨X, i, none⟩ = some (.int .u8 v)) ∧ (∀ o, w.frozen? ⟨X, o, none⟩ = false) ∧ ∃ z, w.cell? ⟨X, 512, none⟩ = some (.string z) := by
  obtain ⟨tab, z, h⟩ := h
  exact ⟨fun i hi => ⟨tab i, by rw [cell_of_row w X _ _ _ _ h, escCells_tab _ _ _ _ hi]⟩, fun o => frozen_of_row w X o _ _ h, z, by rw [cell_of_row w X _ _ _ _ h]; simp [escCells]⟩
theorem EscIs.lt {w : World} {X : Nat} {f : Nat → Int} (h : EscIs w X f) : X < w.heap.size := by obtain ⟨_, _, h⟩ := h; exact lt_of_block h
theorem EscIs.grow {w w' : World} {X : Nat} {f : Nat → Int} (h : EscIs w X f) (hk : w'.heap[X]? = w.heap[X]?) : EscIs w' X f := by
  obtain ⟨tab, z, h⟩ := h; exact ⟨tab, z, by rw [hk]; exact h⟩
theorem EscIs.setTab {w : World} {X : Nat} {f : Nat → Int} (h : EscIs w X f) (c : Nat) (v : Int) (hc : c < 256) : EscIs (w.setCell ⟨X, c, none⟩ (.int .u8 v)) X f := by
  obtain ⟨tab, z, h⟩ := h
  exact ⟨_, z, by rw [heap_setCell_same w X c _ _ _ h, escCells_setTab _ _ _ _ _ hc]⟩
theorem EscIs.setRev {w : World} {X : Nat} {f : Nat → Int} (h : EscIs w X f) (c : Nat) (v : Int) (hc : c < 256) : EscIs (w.setCell ⟨X, 256 + c, none⟩ (.int .u8 v)) X (fun i => if i = c then v else f i) := by
  obtain ⟨tab, z, h⟩ := h
  exact ⟨tab, z, by rw [heap_setCell_same w X _ _ _ _ h, escCells_setRev _ _ _ _ _ hc]⟩
theorem EscIs.setZ {w : World} {X : Nat} {f : Nat → Int} (h : EscIs w X f) (z : ByteArray) : EscIs (w.setCell ⟨X, 512, none⟩ (.string z)) X f := by
  obtain ⟨tab, z', h⟩ := h
  exact ⟨tab, z, by rw [heap_setCell_same w X _ _ _ _ h, escCells_setZ]⟩
theorem EscIs.congr {w : World} {X : Nat} {f g : Nat → Int} (h : EscIs w X f) (hfg : ∀ c, c < 256 → f c = g c) : EscIs w X g := by
  obtain ⟨tab, z, h⟩ := h
  refine ⟨tab, z, ?_⟩
  rw [h]
  have : ((List.range 256).map fun i => Value.int .u8 (f i)) = (List.range 256).map fun i => Value.int .u8 (g i) := List.map_congr_left fun c hc => by rw [hfg c (by simpa using hc)]
  unfold escCells
  rw [this]

/-- What a function that makes an escaper leaves. -/
def EP (w : World) (f : Nat → Int) (e : Ending) (w' : World) : Prop :=
  ∃ X, e = .returned (.pointer (some ⟨X, 0, none⟩)) ∧ EscIs w' X f ∧ Below w.heap.size w w' ∧ w.heap.size ≤ X

/-- The byte by which a rune is escaped. -/
def escOf (r : Int) : Nat := if r = 10 then 110 else if r = 13 then 114 else if r = 9 then 116 else r.toNat

/-- The way back, of the first k of some runes. -/
def revOf (l : List UInt8) : Nat → Nat → Int
  | 0 => fun _ => 0
  | k + 1 => fun i => if i = escOf ((l.getD k 0).toNat : Int) then ((l.getD k 0).toNat : Int) else revOf l k i

theorem zero124 : Tryz.zeroCells124 = escCells (fun _ => 0) (fun _ => 0) ByteArray.empty := by kernel_rfl

def isRune (r : Int) : Prop := r = 44 ∨ r = 61 ∨ r = 32 ∨ r = 34 ∨ r = 92 ∨ r = 10 ∨ r = 13 ∨ r = 9

/-- strings.TrimPrefix of one backslash, at the runes' texts. -/
theorem trim_44 (w : World) : Calls Tryz.prog 142 #[.string ⟨#[44]⟩, .string ⟨#[92]⟩] w fun e w' => e = .returned (.string ⟨#[44]⟩) ∧ w' = w := by
  have ht : (({ data := #[44] : ByteArray }.extract 0 1).toList == [92]) = false := by decide +kernel
  go_enter Tryz.func142, Tryz.ntmps142
  go_wp2
  go_ret
  exact ⟨rfl, rfl⟩

theorem trim_61 (w : World) : Calls Tryz.prog 142 #[.string ⟨#[61]⟩, .string ⟨#[92]⟩] w fun e w' => e = .returned (.string ⟨#[61]⟩) ∧ w' = w := by
  have ht : (({ data := #[61] : ByteArray }.extract 0 1).toList == [92]) = false := by decide +kernel
  go_enter Tryz.func142, Tryz.ntmps142
  go_wp2
  go_ret
  exact ⟨rfl, rfl⟩

theorem trim_32 (w : World) : Calls Tryz.prog 142 #[.string ⟨#[32]⟩, .string ⟨#[92]⟩] w fun e w' => e = .returned (.string ⟨#[32]⟩) ∧ w' = w := by
  have ht : (({ data := #[32] : ByteArray }.extract 0 1).toList == [92]) = false := by decide +kernel
  go_enter Tryz.func142, Tryz.ntmps142
  go_wp2
  go_ret
  exact ⟨rfl, rfl⟩

theorem trim_34 (w : World) : Calls Tryz.prog 142 #[.string ⟨#[34]⟩, .string ⟨#[92]⟩] w fun e w' => e = .returned (.string ⟨#[34]⟩) ∧ w' = w := by
  have ht : (({ data := #[34] : ByteArray }.extract 0 1).toList == [92]) = false := by decide +kernel
  go_enter Tryz.func142, Tryz.ntmps142
  go_wp2
  go_ret
  exact ⟨rfl, rfl⟩

theorem trim_92 (w : World) : Calls Tryz.prog 142 #[.string ⟨#[92, 92]⟩, .string ⟨#[92]⟩] w fun e w' => e = .returned (.string ⟨#[92]⟩) ∧ w' = w := by
  have ht : (({ data := #[92, 92] : ByteArray }.extract 0 1).toList == [92]) = true := by decide +kernel
  have hx : ({ data := #[92, 92] : ByteArray }.extract 1 2) = ⟨#[92]⟩ := by decide +kernel
  go_enter Tryz.func142, Tryz.ntmps142
  go_wp2
  go_ret
  exact ⟨rfl, rfl⟩

theorem trim_10 (w : World) : Calls Tryz.prog 142 #[.string ⟨#[92, 110]⟩, .string ⟨#[92]⟩] w fun e w' => e = .returned (.string ⟨#[110]⟩) ∧ w' = w := by
  have ht : (({ data := #[92, 110] : ByteArray }.extract 0 1).toList == [92]) = true := by decide +kernel
  have hx : ({ data := #[92, 110] : ByteArray }.extract 1 2) = ⟨#[110]⟩ := by decide +kernel
  go_enter Tryz.func142, Tryz.ntmps142
  go_wp2
  go_ret
  exact ⟨rfl, rfl⟩

theorem trim_13 (w : World) : Calls Tryz.prog 142 #[.string ⟨#[92, 114]⟩, .string ⟨#[92]⟩] w fun e w' => e = .returned (.string ⟨#[114]⟩) ∧ w' = w := by
  have ht : (({ data := #[92, 114] : ByteArray }.extract 0 1).toList == [92]) = true := by decide +kernel
  have hx : ({ data := #[92, 114] : ByteArray }.extract 1 2) = ⟨#[114]⟩ := by decide +kernel
  go_enter Tryz.func142, Tryz.ntmps142
  go_wp2
  go_ret
  exact ⟨rfl, rfl⟩

theorem trim_9 (w : World) : Calls Tryz.prog 142 #[.string ⟨#[92, 116]⟩, .string ⟨#[92]⟩] w fun e w' => e = .returned (.string ⟨#[116]⟩) ∧ w' = w := by
  have ht : (({ data := #[92, 116] : ByteArray }.extract 0 1).toList == [92]) = true := by decide +kernel
  have hx : ({ data := #[92, 116] : ByteArray }.extract 1 2) = ⟨#[116]⟩ := by decide +kernel
  go_enter Tryz.func142, Tryz.ntmps142
  go_wp2
  go_ret
  exact ⟨rfl, rfl⟩

theorem iterAt_heap (w : World) (k : Nat) (s : ByteArray) (p : Nat) (h : k < w.heap.size) : (w.iterAt k s p).heap[k]? = some (.stringIter s p) := by
  simp [World.iterAt, h]
theorem iterAt_other (w : World) (k : Nat) (s : ByteArray) (p : Nat) (j : Nat) (h : j ≠ k) : (w.iterAt k s p).heap[j]? = w.heap[j]? := by
  simp only [World.iterAt]
  rw [Array.getElem?_setIfInBounds_ne (Ne.symm h)]
theorem iterAt_size (w : World) (k : Nat) (s : ByteArray) (p : Nat) : (w.iterAt k s p).heap.size = w.heap.size := by simp [World.iterAt]
theorem below_iterAt {B : Nat} {a w : World} (h : Below B a w) (k : Nat) (s : ByteArray) (p : Nat) (hk : B ≤ k) : Below B a (w.iterAt k s p) :=
  ⟨h.os, h.tape, h.output, by simpa [World.iterAt] using h.size, fun i hi => by rw [iterAt_other _ _ _ _ _ (by omega)]; exact h.block i hi⟩

/-- What one round of newEscaper's loop leaves. -/
theorem esc_round {w wr w1 : World} {s : ByteArray} {k : Nat} {r q : Nat} (hr : r < 256) (hq : q < 256) (hk : k < s.size) (hc : (s[k]'hk).toNat = r) (ho : escOf (r : Int) = q)
    (hit : wr.heap[w.heap.size + 1]? = some (.stringIter s k)) (hesc : EscIs wr w.heap.size (revOf s.data.toList k)) (hb : Below w.heap.size w wr)
    (hb1 : Below (wr.iterAt (w.heap.size + 1) s (k + 1)).heap.size (wr.iterAt (w.heap.size + 1) s (k + 1)) w1) :
    ((w1.setCell ⟨w.heap.size, r, none⟩ (.int .u8 (q : Int))).setCell ⟨w.heap.size, 256 + q, none⟩ (.int .u8 (r : Int))).heap[w.heap.size + 1]? = some (.stringIter s (k + 1)) ∧
    EscIs ((w1.setCell ⟨w.heap.size, r, none⟩ (.int .u8 (q : Int))).setCell ⟨w.heap.size, 256 + q, none⟩ (.int .u8 (r : Int))) w.heap.size (revOf s.data.toList (k + 1)) ∧
    Below w.heap.size w ((w1.setCell ⟨w.heap.size, r, none⟩ (.int .u8 (q : Int))).setCell ⟨w.heap.size, 256 + q, none⟩ (.int .u8 (r : Int))) := by
  have hsz : w.heap.size + 1 < wr.heap.size := (Array.getElem?_eq_some_iff.1 hit).1
  have e1 : w1.heap[w.heap.size + 1]? = some (.stringIter s (k + 1)) := (hb1.block _ (by rw [iterAt_size]; omega)).trans (iterAt_heap wr _ s _ hsz)
  have e2 : EscIs w1 w.heap.size (revOf s.data.toList k) := hesc.grow ((hb1.block _ (by rw [iterAt_size]; omega)).trans (iterAt_other wr _ s _ _ (by omega)))
  have e3 : Below w.heap.size w w1 := (below_iterAt hb (w.heap.size + 1) s (k + 1) (by omega)).trans (hb1.mono (by rw [iterAt_size]; omega))
  refine ⟨?_, ?_, (e3.setCell (Nat.le_refl _) _).setCell (Nat.le_refl _) _⟩
  · rw [heap_setCell_other _ _ _ _ (show w.heap.size + 1 ≠ w.heap.size by omega), heap_setCell_other _ _ _ _ (show w.heap.size + 1 ≠ w.heap.size by omega), e1]
  · refine ((e2.setTab r q hr).setRev q r hq).congr fun c _ => ?_
    have hg : s.data.toList.getD k 0 = s[k]'hk := by
      rw [List.getD_eq_getElem?_getD, Array.getElem?_toList, Array.getElem?_eq_getElem (by simpa using hk)]
      rfl
    simp only [revOf, hg, hc, ho]

set_option maxHeartbeats 4000000 in
set_option maxRecDepth 100000 in
theorem newEscaper_any (s : ByteArray) (hr : ∀ k (h : k < s.size), isRune ((s[k]'h).toNat : Int)) (w : World) :
    Calls Tryz.prog 106 #[.string s] w (EP w (revOf s.data.toList s.size)) := by
  have HR := hid hr; clear hr
  go_enter Tryz.func106, Tryz.ntmps106
  go_wp2_with fail
  go_loopw [5, 6] (fun _ _ wr => ∃ k : Nat, k ≤ s.size ∧ wr.heap[w.heap.size + 1]? = some (.stringIter s k) ∧ EscIs wr w.heap.size (revOf s.data.toList k) ∧ Below w.heap.size w wr) (fun _ _ wr => s.size - wr.iterPos (w.heap.size + 1))
  case atStart =>
    refine ⟨0, Nat.zero_le _, ?_, ?_, ?_⟩
    · have := World.iter_heap (w.alloc (Obj.cells Tryz.zeroCells124 124)) s 0
      simpa using this
    · refine ⟨fun _ => 0, ByteArray.empty, ?_⟩
      rw [zero124]
      exact (heap_alloc_old (w.alloc _) _ (r := w.heap.size) (by simp)).trans (heap_alloc_new w _)
    · exact ((Below.refl _ _).alloc (Nat.le_refl _) _).alloc (by simp) _
  case round =>
    obtain ⟨k, hk, hit, hesc, hb⟩ := hrel
    by_cases hlt : k < s.size
    · have hlt128 : (s[k]'hlt).toNat < 128 := by have := HR.out k hlt; unfold isRune at this; omega
      have hn := Lib.run_next_ascii_at (P := Tryz.prog) wr (w.heap.size + 1) s k
      have h8 := HR.out k hlt
      have hsz : w.heap.size + 1 < wr.heap.size := by have := (Array.getElem?_eq_some_iff.1 hit).1; omega
      have hn2 := fun ty => hn ty hit hlt hlt128
      clear hn
      have hpos := iterPos_of hit
      have Hpos := hid hpos; clear hpos
      have Hit := hid hit; clear hit
      have Hesc := hid hesc; clear hesc
      have Hb := hid hb; clear hb
      generalize hc : (s[k]'hlt).toNat = c at *
      have HC := hid hc; clear hc
      unfold isRune at h8
      have h9 : c = 44 ∨ c = 61 ∨ c = 32 ∨ c = 34 ∨ c = 92 ∨ c = 10 ∨ c = 13 ∨ c = 9 := by omega
      clear h8 hlt128
      rcases h9 with rfl | rfl | rfl | rfl | rfl | rfl | rfl | rfl
      · go_wp2_with fail
        refine (quoteRune_any _ (by simp) _).mono ?_; rintro e w1 ⟨rfl, hb1⟩
        rw [show (⟨(39 :: (escB 44 ++ [39])).toArray⟩ : ByteArray) = ⟨#[39, 44, 39]⟩ from rfl]
        have hsz1 : w.heap.size + 1 < w1.heap.size := by have := hb1.size; rw [iterAt_size] at this; omega
        have hround := esc_round (r := 44) (q := 44) (by omega) (by omega) hlt HC.out rfl Hit.out Hesc.out Hb.out hb1
        have hesc1 : EscIs w1 w.heap.size (revOf s.data.toList k) := Hesc.out.grow ((hb1.block _ (by rw [iterAt_size]; omega)).trans (iterAt_other wr _ s _ _ (by omega)))
        obtain ⟨v0, ht0⟩ := hesc1.there.1 44 (by omega)
        have ht1 := hesc1.cell 44 (by omega)
        have ht2 := hesc1.there.2.1
        clear hesc1
        have HB1 := hid hb1; clear hb1
        have HRo := hid hround; clear hround
        go_wp2_with fail
        rw [show ({ data := #[39, 44, 39] : ByteArray }.extract 1 2) = ⟨#[44]⟩ from by decide]
        refine (trim_44 _).mono ?_; rintro e w' ⟨rfl, rfl⟩
        have hg0 : ∀ h, (({ data := #[44] : ByteArray })[0]'h).toNat = 44 := fun _ => rfl
        go_wp2
        go_roundw
        case rel => exact ⟨k + 1, by omega, HRo.out.1, HRo.out.2.1, HRo.out.2.2⟩
        case measure =>
          refine Nat.lt_of_le_of_lt (Nat.le_of_eq (congrArg (s.size - ·) (iterPos_of HRo.out.1))) ?_
          rw [Hpos.out]; omega
      · go_wp2_with fail
        refine (quoteRune_any _ (by simp) _).mono ?_; rintro e w1 ⟨rfl, hb1⟩
        rw [show (⟨(39 :: (escB 61 ++ [39])).toArray⟩ : ByteArray) = ⟨#[39, 61, 39]⟩ from rfl]
        have hsz1 : w.heap.size + 1 < w1.heap.size := by have := hb1.size; rw [iterAt_size] at this; omega
        have hround := esc_round (r := 61) (q := 61) (by omega) (by omega) hlt HC.out rfl Hit.out Hesc.out Hb.out hb1
        have hesc1 : EscIs w1 w.heap.size (revOf s.data.toList k) := Hesc.out.grow ((hb1.block _ (by rw [iterAt_size]; omega)).trans (iterAt_other wr _ s _ _ (by omega)))
        obtain ⟨v0, ht0⟩ := hesc1.there.1 61 (by omega)
        have ht1 := hesc1.cell 61 (by omega)
        have ht2 := hesc1.there.2.1
        clear hesc1
        have HB1 := hid hb1; clear hb1
        have HRo := hid hround; clear hround
        go_wp2_with fail
        rw [show ({ data := #[39, 61, 39] : ByteArray }.extract 1 2) = ⟨#[61]⟩ from by decide]
        refine (trim_61 _).mono ?_; rintro e w' ⟨rfl, rfl⟩
        have hg0 : ∀ h, (({ data := #[61] : ByteArray })[0]'h).toNat = 61 := fun _ => rfl
        go_wp2
        go_roundw
        case rel => exact ⟨k + 1, by omega, HRo.out.1, HRo.out.2.1, HRo.out.2.2⟩
        case measure =>
          refine Nat.lt_of_le_of_lt (Nat.le_of_eq (congrArg (s.size - ·) (iterPos_of HRo.out.1))) ?_
          rw [Hpos.out]; omega
      · go_wp2_with fail
        refine (quoteRune_any _ (by simp) _).mono ?_; rintro e w1 ⟨rfl, hb1⟩
        rw [show (⟨(39 :: (escB 32 ++ [39])).toArray⟩ : ByteArray) = ⟨#[39, 32, 39]⟩ from rfl]
        have hsz1 : w.heap.size + 1 < w1.heap.size := by have := hb1.size; rw [iterAt_size] at this; omega
        have hround := esc_round (r := 32) (q := 32) (by omega) (by omega) hlt HC.out rfl Hit.out Hesc.out Hb.out hb1
        have hesc1 : EscIs w1 w.heap.size (revOf s.data.toList k) := Hesc.out.grow ((hb1.block _ (by rw [iterAt_size]; omega)).trans (iterAt_other wr _ s _ _ (by omega)))
        obtain ⟨v0, ht0⟩ := hesc1.there.1 32 (by omega)
        have ht1 := hesc1.cell 32 (by omega)
        have ht2 := hesc1.there.2.1
        clear hesc1
        have HB1 := hid hb1; clear hb1
        have HRo := hid hround; clear hround
        go_wp2_with fail
        rw [show ({ data := #[39, 32, 39] : ByteArray }.extract 1 2) = ⟨#[32]⟩ from by decide]
        refine (trim_32 _).mono ?_; rintro e w' ⟨rfl, rfl⟩
        have hg0 : ∀ h, (({ data := #[32] : ByteArray })[0]'h).toNat = 32 := fun _ => rfl
        go_wp2
        go_roundw
        case rel => exact ⟨k + 1, by omega, HRo.out.1, HRo.out.2.1, HRo.out.2.2⟩
        case measure =>
          refine Nat.lt_of_le_of_lt (Nat.le_of_eq (congrArg (s.size - ·) (iterPos_of HRo.out.1))) ?_
          rw [Hpos.out]; omega
      · go_wp2_with fail
        refine (quoteRune_any _ (by simp) _).mono ?_; rintro e w1 ⟨rfl, hb1⟩
        rw [show (⟨(39 :: (escB 34 ++ [39])).toArray⟩ : ByteArray) = ⟨#[39, 34, 39]⟩ from rfl]
        have hsz1 : w.heap.size + 1 < w1.heap.size := by have := hb1.size; rw [iterAt_size] at this; omega
        have hround := esc_round (r := 34) (q := 34) (by omega) (by omega) hlt HC.out rfl Hit.out Hesc.out Hb.out hb1
        have hesc1 : EscIs w1 w.heap.size (revOf s.data.toList k) := Hesc.out.grow ((hb1.block _ (by rw [iterAt_size]; omega)).trans (iterAt_other wr _ s _ _ (by omega)))
        obtain ⟨v0, ht0⟩ := hesc1.there.1 34 (by omega)
        have ht1 := hesc1.cell 34 (by omega)
        have ht2 := hesc1.there.2.1
        clear hesc1
        have HB1 := hid hb1; clear hb1
        have HRo := hid hround; clear hround
        go_wp2_with fail
        rw [show ({ data := #[39, 34, 39] : ByteArray }.extract 1 2) = ⟨#[34]⟩ from by decide]
        refine (trim_34 _).mono ?_; rintro e w' ⟨rfl, rfl⟩
        have hg0 : ∀ h, (({ data := #[34] : ByteArray })[0]'h).toNat = 34 := fun _ => rfl
        go_wp2
        go_roundw
        case rel => exact ⟨k + 1, by omega, HRo.out.1, HRo.out.2.1, HRo.out.2.2⟩
        case measure =>
          refine Nat.lt_of_le_of_lt (Nat.le_of_eq (congrArg (s.size - ·) (iterPos_of HRo.out.1))) ?_
          rw [Hpos.out]; omega
      · go_wp2_with fail
        refine (quoteRune_any _ (by simp) _).mono ?_; rintro e w1 ⟨rfl, hb1⟩
        rw [show (⟨(39 :: (escB 92 ++ [39])).toArray⟩ : ByteArray) = ⟨#[39, 92, 92, 39]⟩ from rfl]
        have hsz1 : w.heap.size + 1 < w1.heap.size := by have := hb1.size; rw [iterAt_size] at this; omega
        have hround := esc_round (r := 92) (q := 92) (by omega) (by omega) hlt HC.out rfl Hit.out Hesc.out Hb.out hb1
        have hesc1 : EscIs w1 w.heap.size (revOf s.data.toList k) := Hesc.out.grow ((hb1.block _ (by rw [iterAt_size]; omega)).trans (iterAt_other wr _ s _ _ (by omega)))
        obtain ⟨v0, ht0⟩ := hesc1.there.1 92 (by omega)
        have ht1 := hesc1.cell 92 (by omega)
        have ht2 := hesc1.there.2.1
        clear hesc1
        have HB1 := hid hb1; clear hb1
        have HRo := hid hround; clear hround
        go_wp2_with fail
        rw [show ({ data := #[39, 92, 92, 39] : ByteArray }.extract 1 3) = ⟨#[92, 92]⟩ from by decide]
        refine (trim_92 _).mono ?_; rintro e w' ⟨rfl, rfl⟩
        have hg0 : ∀ h, (({ data := #[92] : ByteArray })[0]'h).toNat = 92 := fun _ => rfl
        go_wp2
        go_roundw
        case rel => exact ⟨k + 1, by omega, HRo.out.1, HRo.out.2.1, HRo.out.2.2⟩
        case measure =>
          refine Nat.lt_of_le_of_lt (Nat.le_of_eq (congrArg (s.size - ·) (iterPos_of HRo.out.1))) ?_
          rw [Hpos.out]; omega
      · go_wp2_with fail
        refine (quoteRune_any _ (by simp) _).mono ?_; rintro e w1 ⟨rfl, hb1⟩
        rw [show (⟨(39 :: (escB 10 ++ [39])).toArray⟩ : ByteArray) = ⟨#[39, 92, 110, 39]⟩ from rfl]
        have hsz1 : w.heap.size + 1 < w1.heap.size := by have := hb1.size; rw [iterAt_size] at this; omega
        have hround := esc_round (r := 10) (q := 110) (by omega) (by omega) hlt HC.out rfl Hit.out Hesc.out Hb.out hb1
        have hesc1 : EscIs w1 w.heap.size (revOf s.data.toList k) := Hesc.out.grow ((hb1.block _ (by rw [iterAt_size]; omega)).trans (iterAt_other wr _ s _ _ (by omega)))
        obtain ⟨v0, ht0⟩ := hesc1.there.1 10 (by omega)
        have ht1 := hesc1.cell 110 (by omega)
        have ht2 := hesc1.there.2.1
        clear hesc1
        have HB1 := hid hb1; clear hb1
        have HRo := hid hround; clear hround
        go_wp2_with fail
        rw [show ({ data := #[39, 92, 110, 39] : ByteArray }.extract 1 3) = ⟨#[92, 110]⟩ from by decide]
        refine (trim_10 _).mono ?_; rintro e w' ⟨rfl, rfl⟩
        have hg0 : ∀ h, (({ data := #[110] : ByteArray })[0]'h).toNat = 110 := fun _ => rfl
        go_wp2
        go_roundw
        case rel => exact ⟨k + 1, by omega, HRo.out.1, HRo.out.2.1, HRo.out.2.2⟩
        case measure =>
          refine Nat.lt_of_le_of_lt (Nat.le_of_eq (congrArg (s.size - ·) (iterPos_of HRo.out.1))) ?_
          rw [Hpos.out]; omega
      · go_wp2_with fail
        refine (quoteRune_any _ (by simp) _).mono ?_; rintro e w1 ⟨rfl, hb1⟩
        rw [show (⟨(39 :: (escB 13 ++ [39])).toArray⟩ : ByteArray) = ⟨#[39, 92, 114, 39]⟩ from rfl]
        have hsz1 : w.heap.size + 1 < w1.heap.size := by have := hb1.size; rw [iterAt_size] at this; omega
        have hround := esc_round (r := 13) (q := 114) (by omega) (by omega) hlt HC.out rfl Hit.out Hesc.out Hb.out hb1
        have hesc1 : EscIs w1 w.heap.size (revOf s.data.toList k) := Hesc.out.grow ((hb1.block _ (by rw [iterAt_size]; omega)).trans (iterAt_other wr _ s _ _ (by omega)))
        obtain ⟨v0, ht0⟩ := hesc1.there.1 13 (by omega)
        have ht1 := hesc1.cell 114 (by omega)
        have ht2 := hesc1.there.2.1
        clear hesc1
        have HB1 := hid hb1; clear hb1
        have HRo := hid hround; clear hround
        go_wp2_with fail
        rw [show ({ data := #[39, 92, 114, 39] : ByteArray }.extract 1 3) = ⟨#[92, 114]⟩ from by decide]
        refine (trim_13 _).mono ?_; rintro e w' ⟨rfl, rfl⟩
        have hg0 : ∀ h, (({ data := #[114] : ByteArray })[0]'h).toNat = 114 := fun _ => rfl
        go_wp2
        go_roundw
        case rel => exact ⟨k + 1, by omega, HRo.out.1, HRo.out.2.1, HRo.out.2.2⟩
        case measure =>
          refine Nat.lt_of_le_of_lt (Nat.le_of_eq (congrArg (s.size - ·) (iterPos_of HRo.out.1))) ?_
          rw [Hpos.out]; omega
      · go_wp2_with fail
        refine (quoteRune_any _ (by simp) _).mono ?_; rintro e w1 ⟨rfl, hb1⟩
        rw [show (⟨(39 :: (escB 9 ++ [39])).toArray⟩ : ByteArray) = ⟨#[39, 92, 116, 39]⟩ from rfl]
        have hsz1 : w.heap.size + 1 < w1.heap.size := by have := hb1.size; rw [iterAt_size] at this; omega
        have hround := esc_round (r := 9) (q := 116) (by omega) (by omega) hlt HC.out rfl Hit.out Hesc.out Hb.out hb1
        have hesc1 : EscIs w1 w.heap.size (revOf s.data.toList k) := Hesc.out.grow ((hb1.block _ (by rw [iterAt_size]; omega)).trans (iterAt_other wr _ s _ _ (by omega)))
        obtain ⟨v0, ht0⟩ := hesc1.there.1 9 (by omega)
        have ht1 := hesc1.cell 116 (by omega)
        have ht2 := hesc1.there.2.1
        clear hesc1
        have HB1 := hid hb1; clear hb1
        have HRo := hid hround; clear hround
        go_wp2_with fail
        rw [show ({ data := #[39, 92, 116, 39] : ByteArray }.extract 1 3) = ⟨#[92, 116]⟩ from by decide]
        refine (trim_9 _).mono ?_; rintro e w' ⟨rfl, rfl⟩
        have hg0 : ∀ h, (({ data := #[116] : ByteArray })[0]'h).toNat = 116 := fun _ => rfl
        go_wp2
        go_roundw
        case rel => exact ⟨k + 1, by omega, HRo.out.1, HRo.out.2.1, HRo.out.2.2⟩
        case measure =>
          refine Nat.lt_of_le_of_lt (Nat.le_of_eq (congrArg (s.size - ·) (iterPos_of HRo.out.1))) ?_
          rw [Hpos.out]; omega
    · have hn := Lib.run_next_end_at (P := Tryz.prog) wr (w.heap.size + 1) s k
      have hn2 := fun ty => hn ty hit hlt
      clear hn
      have hsz : w.heap.size + 1 < wr.heap.size := by have := (Array.getElem?_eq_some_iff.1 hit).1; omega
      have Hit := hid hit; clear hit
      obtain ⟨z, hz⟩ := hesc.there.2.2
      have hf := hesc.there.2.1
      have Hesc := hid hesc; clear hesc
      have Hb := hid hb; clear hb
      go_wp2
      go_ret
      obtain rfl : k = s.size := by omega
      exact ⟨_, rfl, Hesc.out.setZ s, Hb.out.setCell (Nat.le_refl _) _, Nat.le_refl _⟩

/-- The ways back of the four escapers. -/
def measE (i : Nat) : Int := if i = 32 ∨ i = 44 then i else 0
def tagE (i : Nat) : Int := if i = 44 ∨ i = 61 ∨ i = 32 then i else 0
def strE (i : Nat) : Int := if i = 92 ∨ i = 34 then i else if i = 110 then 10 else if i = 114 then 13 else if i = 116 then 9 else 0

theorem isRune_list (l : List UInt8) (h : l.all (fun c => c == 44 || c == 61 || c == 32 || c == 34 || c == 92 || c == 10 || c == 13 || c == 9) = true) (k : Nat) (hk : k < (ByteArray.mk l.toArray).size) : isRune (((ByteArray.mk l.toArray)[k]'hk).toNat : Int) := by
  have hl : k < l.length := by simpa [ByteArray.size] using hk
  have h1 := List.all_eq_true.1 h l[k] (List.getElem_mem hl)
  have e : (ByteArray.mk l.toArray)[k]'hk = l[k] := rfl
  rw [e]
  simp only [Bool.or_eq_true, beq_iff_eq] at h1
  unfold isRune
  rcases h1 with ((((((h1 | h1) | h1) | h1) | h1) | h1) | h1) | h1 <;> rw [h1] <;> decide

set_option maxHeartbeats 400000 in
theorem measE_any (w : World) : Calls Tryz.prog 56 #[] w (EP w measE) := by
  go_enter Tryz.func56, Tryz.ntmps56
  go_wp2_with fail
  refine (newEscaper_any ⟨#[32, 44]⟩ (isRune_list [32, 44] (by decide)) _).mono ?_; rintro e w1 ⟨X, rfl, h1, b1, l1⟩
  go_wp2_with fail
  go_ret
  exact ⟨X, rfl, h1.congr (by decide +kernel), b1, l1⟩

set_option maxHeartbeats 400000 in
theorem tagE_any (w : World) : Calls Tryz.prog 66 #[] w (EP w tagE) := by
  go_enter Tryz.func66, Tryz.ntmps66
  go_wp2_with fail
  refine (newEscaper_any ⟨#[44, 61, 32]⟩ (isRune_list [44, 61, 32] (by decide)) _).mono ?_; rintro e w1 ⟨X, rfl, h1, b1, l1⟩
  go_wp2_with fail
  go_ret
  exact ⟨X, rfl, h1.congr (by decide +kernel), b1, l1⟩

set_option maxHeartbeats 400000 in
theorem tagValE_any (w : World) : Calls Tryz.prog 69 #[] w (EP w tagE) := by
  go_enter Tryz.func69, Tryz.ntmps69
  go_wp2_with fail
  refine (newEscaper_any ⟨#[44, 32, 61]⟩ (isRune_list [44, 32, 61] (by decide)) _).mono ?_; rintro e w1 ⟨X, rfl, h1, b1, l1⟩
  go_wp2_with fail
  go_ret
  exact ⟨X, rfl, h1.congr (by decide +kernel), b1, l1⟩

set_option maxHeartbeats 400000 in
theorem fieldE_any (w : World) : Calls Tryz.prog 75 #[] w (EP w tagE) := by
  go_enter Tryz.func75, Tryz.ntmps75
  go_wp2_with fail
  refine (tagE_any _).mono ?_; rintro e w1 ⟨X, rfl, h1, b1, l1⟩
  go_wp2_with fail
  go_ret
  exact ⟨X, rfl, h1, b1, l1⟩

set_option maxHeartbeats 400000 in
theorem strE_any (w : World) : Calls Tryz.prog 77 #[] w (EP w strE) := by
  go_enter Tryz.func77, Tryz.ntmps77
  go_wp2_with fail
  refine (newEscaper_any ⟨#[92, 34, 10, 13, 9]⟩ (isRune_list [92, 34, 10, 13, 9] (by decide)) _).mono ?_; rintro e w1 ⟨X, rfl, h1, b1, l1⟩
  go_wp2_with fail
  go_ret
  exact ⟨X, rfl, h1.congr (by decide +kernel), b1, l1⟩

end Go.Proofs.YtejlokdcocacaaaGreatDoor
