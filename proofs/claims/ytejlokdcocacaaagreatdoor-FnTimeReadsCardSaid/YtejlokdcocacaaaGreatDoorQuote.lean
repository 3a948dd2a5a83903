/- strconv.QuoteRune at the eight runes that the escapers ask it for, and the escapers' tables. -/
import Derived.Test.YtejlokdcocacaaaGreatDoorSets2
import Derived.Lib.AppendStr
namespace Go.Proofs.YtejlokdcocacaaaGreatDoor
open Go.RowKit

/-- A buffer of bytes that a call owns from block B on, and what became of the rest since the world W0. -/
def OB (B : Nat) (v : Value) (n : Nat) (xs : List Value) (W0 w : World) : Prop := w.ownsRow B 5 1 v n xs ∧ Below B W0 w ∧ B ≤ w.heap.size

theorem info5 : (Tryz.prog.info? 5).map (fun i => (i.zero, i.size, i.bytes)) = some (some (.int .u8 0), 1, 1) := by kernel_rfl

theorem OB.alloc {B : Nat} {v : Value} {n : Nat} {xs : List Value} {W0 w : World} (h : OB B v n xs W0 w) (o : Obj) : OB B v n xs W0 (w.alloc o) :=
  ⟨h.1.alloc o, h.2.1.alloc h.2.2 o, Nat.le_trans h.2.2 ((Below.refl 0 w).alloc (Nat.zero_le _) o).size⟩
theorem OB.grown {B : Nat} {v v' : Value} {n n' : Nat} {xs xs' : List Value} {W0 w w' : World} (h : OB B v n xs W0 w) (ho : w'.ownsRow B 5 1 v' n' xs') (hg : w.grownBy w' v.ownBlock) : OB B v' n' xs' W0 w' :=
  ⟨ho, h.2.1.grown hg h.2.2 (fun k hk => (h.1.lt k hk).1), Nat.le_trans h.2.2 hg.size⟩
theorem OB.drewN {B : Nat} {v : Value} {n : Nat} {xs : List Value} {W0 w : World} (h : OB B v n xs W0 w) (q : Nat) : OB B v n xs W0 (w.drewN q) :=
  ⟨h.1, ⟨h.2.1.os, h.2.1.tape, h.2.1.output, h.2.1.size, h.2.1.block⟩, h.2.2⟩

/-- 'buf = append(buf, c)'. -/
theorem app_byte {ops : Array Oper} {rest : List Oper} {o : Oper} {a : Act} {Q : Exit → Act → World → Prop} (hgd : o.guard = none) (s x : Operand)
    (ho : o.op = .call { callee := .builtin .append, args := #[s, x], argTypes := #[69, 69] })
    (B : Nat) (v : Value) (n : Nat) (xs : List Value) (hs : a.eval s = v) (W0 w0 : World) (c : Int) (hb : OB B v n xs W0 w0)
    (hx : a.eval x = .slice (some ⟨w0.heap.size, 0, none⟩) 1 1) (hlen : n + 1 ≤ 100000000000000)
    (h : ∀ v' w', OB B v' (n + 1) (xs ++ [.int .u8 c]) W0 w' → wpList Tryz.prog ops Q rest (a.put o.dst v') w') : wpList Tryz.prog ops Q (o :: rest) a (w0.alloc (.cells #[.int .u8 c] 5)) := by
  obtain ⟨i0, hi, hz0, hz1, hz2⟩ := info_parts info5
  have hb' := hb.alloc (.cells #[.int .u8 c] 5)
  refine wpList_append_own _ hgd s x 69 ho B 5 i0 (.int .u8 0) 1 1 Tryz.underlying69 hi hz0 hz1 hz2 rfl (by decide) v n xs hs hb'.1 ⟨w0.heap.size, 0, none⟩ 1 1 [.int .u8 c] hx rfl ?_ ?_ (by unfold maxLen; omega) (by omega) hb'.2.2 ?_
  · intro j u hj
    match j, hj with
    | 0, hj => simp at hj; subst hj; simp [Addr.add]
    | (j + 1), hj => simp at hj
  · intro u hu; simp at hu; subst hu; rfl
  · intro v' w' ho' hg _
    exact h v' w' (hb'.grown ho' hg)

/-- 'buf = append(buf, "\\x"...)'. -/
theorem app_text {ops : Array Oper} {rest : List Oper} {o : Oper} {a : Act} {Q : Exit → Act → World → Prop} {w : World} (hgd : o.guard = none) (sl x : Operand)
    (ho : o.op = .call { callee := .builtin .append, args := #[sl, x], argTypes := #[69, 9] })
    (B : Nat) (v : Value) (n : Nat) (xs : List Value) (hs : a.eval sl = v) (W0 : World) (hb : OB B v n xs W0 w) (s : ByteArray) (hx : a.eval x = .string s) (hlen : n + s.size ≤ 100000000000000)
    (h : ∀ v' w', OB B v' (n + s.size) (xs ++ Lib.strCells s) W0 w' → wpList Tryz.prog ops Q rest (a.put o.dst v') w') : wpList Tryz.prog ops Q (o :: rest) a w := by
  obtain ⟨i0, hi, hz0, hz1, hz2⟩ := info_parts info5
  refine Lib.wpList_append_own_string w hgd sl x 69 9 ho B 5 i0 Tryz.underlying69 Tryz.underlying9 hi hz0 hz1 hz2 v n xs hs hb.1 s hx (by unfold maxLen; omega) (by omega) hb.2.2 ?_
  intro v' w' ho' hg _
  exact h v' w' (hb.grown ho' hg)

/-- What stands between the quotes. -/
def escR (r : Int) : List Value := if r = 92 then [.int .u8 92, .int .u8 92] else if r = 10 then [.int .u8 92, .int .u8 110] else if r = 13 then [.int .u8 92, .int .u8 114] else if r = 9 then [.int .u8 92, .int .u8 116] else [.int .u8 r]

set_option maxHeartbeats 1000000 in
set_option maxRecDepth 100000 in
theorem isPrint_yes (r : Int) (w : World) (h : r = 44 ∨ r = 61 ∨ r = 32 ∨ r = 34) :
    Calls Tryz.prog 180 #[.int .i32 r] w fun e w' => e = .returned (.bool true) ∧ w' = w := by
  rcases h with rfl | rfl | rfl | rfl
  all_goals
    go_enter Tryz.func180, Tryz.ntmps180
    go_wp2
    go_ret
    exact ⟨rfl, rfl⟩

set_option maxHeartbeats 1000000 in
set_option maxRecDepth 100000 in
theorem isPrint_no (r : Int) (w : World) (h : r = 10 ∨ r = 13 ∨ r = 9) :
    Calls Tryz.prog 180 #[.int .i32 r] w fun e w' => e = .returned (.bool false) ∧ w' = w := by
  rcases h with rfl | rfl | rfl
  all_goals
    go_enter Tryz.func180, Tryz.ntmps180
    go_wp2
    go_ret
    exact ⟨rfl, rfl⟩

set_option maxHeartbeats 1000000 in
set_option maxRecDepth 100000 in
theorem appendRune_any (r : Int) (h : r = 44 ∨ r = 61 ∨ r = 32 ∨ r = 34) (B : Nat) (v : Value) (n : Nat) (xs : List Value) (W0 w : World) (hb : OB B v n xs W0 w) (hlen : n ≤ 100) :
    Calls Tryz.prog 182 #[v, .int .i32 r] w fun e w' => ∃ v', e = .returned v' ∧ OB B v' (n + 1) (xs ++ [.int .u8 r]) W0 w' := by
  go_enter Tryz.func182, Tryz.ntmps182
  rcases h with rfl | rfl | rfl | rfl
  all_goals
    go_wp2_with (at_builtin; refine app_byte rfl _ _ rfl B v n xs rfl W0 _ _ hb rfl (by omega) ?_; intro _ _ hb2)
    go_ret
    exact ⟨_, rfl, hb2⟩

set_option maxHeartbeats 1000000 in
set_option maxRecDepth 100000 in
theorem escapedRune_any (r : Int) (h : r = 44 ∨ r = 61 ∨ r = 32 ∨ r = 34 ∨ r = 92 ∨ r = 10 ∨ r = 13 ∨ r = 9) (B : Nat) (v : Value) (n : Nat) (xs : List Value) (W0 w : World) (hb : OB B v n xs W0 w) (hlen : n ≤ 50) :
    Calls Tryz.prog 175 #[v, .int .i32 r, .int .u8 39, .bool false, .bool false] w fun e w' => ∃ v', e = .returned v' ∧ OB B v' (n + (escR r).length) (xs ++ escR r) W0 w' := by
  go_enter Tryz.func175, Tryz.ntmps175
  rcases h with rfl | rfl | rfl | rfl | rfl | rfl | rfl | rfl
  · go_wp2_with (first | (go_at_call 180; refine (isPrint_yes _ _ (by omega)).mono ?_; rintro e w' ⟨rfl, rfl⟩) | (go_at_call 182; refine (appendRune_any _ (by omega) B v n xs W0 _ hb (by omega)).mono ?_; rintro e w2 ⟨v2, rfl, hb2⟩))
    go_ret
    exact ⟨_, rfl, hb2⟩
  · go_wp2_with (first | (go_at_call 180; refine (isPrint_yes _ _ (by omega)).mono ?_; rintro e w' ⟨rfl, rfl⟩) | (go_at_call 182; refine (appendRune_any _ (by omega) B v n xs W0 _ hb (by omega)).mono ?_; rintro e w2 ⟨v2, rfl, hb2⟩))
    go_ret
    exact ⟨_, rfl, hb2⟩
  · go_wp2_with (first | (go_at_call 180; refine (isPrint_yes _ _ (by omega)).mono ?_; rintro e w' ⟨rfl, rfl⟩) | (go_at_call 182; refine (appendRune_any _ (by omega) B v n xs W0 _ hb (by omega)).mono ?_; rintro e w2 ⟨v2, rfl, hb2⟩))
    go_ret
    exact ⟨_, rfl, hb2⟩
  · go_wp2_with (first | (go_at_call 180; refine (isPrint_yes _ _ (by omega)).mono ?_; rintro e w' ⟨rfl, rfl⟩) | (go_at_call 182; refine (appendRune_any _ (by omega) B v n xs W0 _ hb (by omega)).mono ?_; rintro e w2 ⟨v2, rfl, hb2⟩))
    go_ret
    exact ⟨_, rfl, hb2⟩
  · go_wp2_with (at_builtin; refine app_byte rfl _ _ rfl B _ _ _ rfl W0 _ _ (by assumption) rfl (by omega) ?_; intro _ _ hb)
    go_ret
    exact ⟨_, rfl, by simpa [escR, List.append_assoc] using hb⟩
  all_goals
    go_wp2_with (first | (go_at_call 180; refine (isPrint_no _ _ (by omega)).mono ?_; rintro e w' ⟨rfl, rfl⟩) | (at_builtin; refine app_text rfl _ _ rfl B _ _ _ rfl W0 (by assumption) _ rfl (by simp only [ByteArray.size, List.size_toArray, List.length]; omega) ?_; intro _ _ hb))
    go_ret
    exact ⟨_, rfl, by simpa [escR, Lib.strCells, ByteArray.size] using hb⟩

set_option maxHeartbeats 1000000 in
set_option maxRecDepth 100000 in
theorem validRune_any (r : Int) (h0 : 0 ≤ r) (h1 : r < 200) (w : World) :
    Calls Tryz.prog 174 #[.int .i32 r] w fun e w' => e = .returned (.bool true) ∧ w' = w := by
  have hd0 : decide (0 ≤ r) = true := by simpa using h0
  go_enter Tryz.func174, Tryz.ntmps174
  go_wp2
  go_ret
  exact ⟨rfl, rfl⟩

/-- What stands between the quotes, as bytes. -/
def escB (r : Int) : List UInt8 := if r = 92 then [92, 92] else if r = 10 then [92, 110] else if r = 13 then [92, 114] else if r = 9 then [92, 116] else [UInt8.ofNat r.toNat]
theorem escB_eq (r : Int) (h : r = 44 ∨ r = 61 ∨ r = 32 ∨ r = 34 ∨ r = 92 ∨ r = 10 ∨ r = 13 ∨ r = 9) : escR r = (escB r).map byteV := by
  rcases h with rfl | rfl | rfl | rfl | rfl | rfl | rfl | rfl <;> rfl
theorem escB_len (r : Int) : (escB r).length ≤ 2 := by
  unfold escB
  split
  · simp
  split
  · simp
  split
  · simp
  split <;> simp

theorem strOfNums_bytes (l : List UInt8) : strOfNums (l.map fun c => (c.toNat : Int)) = ⟨l.toArray⟩ := by
  unfold strOfNums
  rw [List.map_map, show ((fun n : Int => UInt8.ofNat n.toNat) ∘ fun c : UInt8 => (c.toNat : Int)) = id from funext fun c => by simp, List.map_id]

/-- 'string(b)'. -/
theorem run_bytes_string {w : World} {v : Value} {l : List UInt8} (h : BytesIs w v l) : (convert 69 9 v).run Tryz.prog w = .ok (.string ⟨l.toArray⟩) w := by
  obtain ⟨b, o, c, rfl, _, _, _, hc⟩ := h
  rw [← strOfNums_bytes]
  refine run_convert_bytes_arg w 69 5 Tryz.underlying69 Tryz.underlying5 b o l.length c _ (by simp) ?_ 9 Tryz.underlying9
  intro i hi
  rw [hc i hi]
  simp [List.getD, hi]

/-- What a call owns, and is not nil, reads as its bytes. -/
theorem bytes_own {w : World} {B n : Nat} {v : Value} {l : List UInt8} (h : w.ownsRow B 5 1 v n (l.map byteV)) (hn : 0 < n) : BytesIs w v l := by
  obtain ⟨h1, ⟨rfl, h2⟩ | ⟨g, cap, cur, rfl, hb, hg, hcc, hm, hs, ht⟩⟩ := h
  · omega
  · have hl : l.length = n := by simpa using h1
    refine ⟨g, 0, cap, by rw [hl], by omega, hm, lt_of_block hg, fun i hi => ?_⟩
    rw [Nat.zero_add, cell_of_row w g i _ _ _ hg]
    have h3 : (cur.toList.take (n * 1))[i]? = some (byteV l[i]) := by rw [ht]; simp [hi]
    rw [List.getElem?_take, if_pos (by omega)] at h3
    simpa [byteV] using h3

set_option maxHeartbeats 1000000 in
set_option maxRecDepth 100000 in
theorem appendQuotedRune_any (r : Int) (h : r = 44 ∨ r = 61 ∨ r = 32 ∨ r = 34 ∨ r = 92 ∨ r = 10 ∨ r = 13 ∨ r = 9) (w : World) :
    Calls Tryz.prog 165 #[.slice none 0 0, .int .i32 r, .int .u8 39, .bool false, .bool false] w fun e w' => ∃ v', e = .returned v' ∧ BytesIs w' v' (39 :: (escB r ++ [39])) ∧ Below w.heap.size w w' := by
  have h0 : OB w.heap.size (.slice none 0 0) 0 [] w w := ⟨World.ownsRow_nil _ _ _ _, Below.refl _ _, Nat.le_refl _⟩
  have hlen := escB_len r
  have hE := escB_eq r h
  have H0 := hid h0; clear h0
  have HL := hid hlen; clear hlen
  have HE := hid hE; clear hE
  have HR := hid h; clear h
  have r0 : 0 ≤ r := by have := HR.out; omega
  have r1 : r < 200 := by have := HR.out; omega
  go_enter Tryz.func165, Tryz.ntmps165
  go_wp2_with (at_builtin; refine app_byte rfl _ _ rfl w.heap.size (.slice none 0 0) 0 [] rfl w _ _ H0.out rfl (by omega) ?_; intro v1 w1 h1)
  have H1 := hid h1; clear h1
  refine (validRune_any r r0 r1 _).mono ?_; rintro e w' ⟨rfl, rfl⟩
  go_wp2_with fail
  refine (escapedRune_any r HR.out _ _ _ _ _ _ H1.out (by omega)).mono ?_; rintro e w2 ⟨v2, rfl, h2⟩
  have hr : (escR r).length ≤ 2 := by rw [HE.out, List.length_map]; exact HL.out
  have H2 := hid h2; clear h2
  go_wp2_with (at_builtin; refine app_byte rfl _ _ rfl w.heap.size v2 (0 + 1 + (escR r).length) ([] ++ [.int .u8 39] ++ escR r) rfl w _ _ H2.out rfl (by omega) ?_; intro v3 w3 h3)
  go_ret
  refine ⟨v3, rfl, bytes_own (B := w.heap.size) (n := 0 + 1 + (escR r).length + 1) ?_ (by omega), h3.2.1⟩
  have h4 := h3.1
  rw [HE.out] at h4
  rw [HE.out]
  simpa [byteV] using h4

set_option maxHeartbeats 1000000 in
set_option maxRecDepth 100000 in
theorem quoteRune_any (r : Int) (h : r = 44 ∨ r = 61 ∨ r = 32 ∨ r = 34 ∨ r = 92 ∨ r = 10 ∨ r = 13 ∨ r = 9) (w : World) :
    Calls Tryz.prog 141 #[.int .i32 r] w fun e w' => e = .returned (.string ⟨(39 :: (escB r ++ [39])).toArray⟩) ∧ Below w.heap.size w w' := by
  have HR := hid h; clear h
  go_enter Tryz.func141, Tryz.ntmps141
  go_wp2_with (go_at_call 159; go_in)
  refine (appendQuotedRune_any r HR.out _).mono ?_; rintro e w1 ⟨v1, rfl, h1, hb⟩
  have hs := run_bytes_string h1
  have H1 := hid h1; clear h1
  go_wp2
  go_ret
  exact ⟨rfl, hb⟩

/-- strings.TrimPrefix(s, "\\") at the runes' texts. -/
def trimB (l : List UInt8) : List UInt8 := match l with | 92 :: r => r | l => l

end Go.Proofs.YtejlokdcocacaaaGreatDoor
