/- What memory looks like around the decoder: its ten fields, its text, its buffer of unescaped bytes; what a call leaves alone. Nothing of the program is named here but type numbers. -/
import Derived.WalkKit
import Derived.WalkSpells
import Derived.Deep.Draws
namespace Go.Proofs.YtejlokdcocacaaaGreatDoor
open Go.RowKit

/-- A fact kept from the walk. -/
theorem hid {p : Prop} (h : p) : Hid p := h

/-- A byte as a cell. -/
def byteV (c : UInt8) : Value := .int .u8 (c.toNat : Int)

/-- The decoder's fields. -/
def decCells (T L C r0 r1 sec : Nat) (sk : Bool) (ev : Value) (line : Int) : Array Value :=
  #[.nilIface, .slice (some ⟨T, 0, none⟩) L C, .int .i64 (r0 : Int), .int .i64 (r1 : Int), .bool true, .int .u8 (sec : Int), .bool sk, ev, .int .i64 line, .nilIface]

/-- Block D holds the decoder's fields. -/
def IsDec (w : World) (D T L C r0 r1 sec : Nat) (sk : Bool) (ev : Value) (line : Int) : Prop :=
  w.heap[D]? = some (.cells (decCells T L C r0 r1 sec sk ev line) 92 (0, 0))

/-- The plain state: the buffer's bytes, where the entry began, where reading stands, the section, the unescaped bytes, the line. -/
structure DSt where
  t : List UInt8
  r0 : Nat
  r1 : Nat
  sec : Nat
  esc : List UInt8
  line : Int

def DSt.rest (s : DSt) : List UInt8 := s.t.drop s.r1

/-- Go's table of lead bytes of UTF-8: how many bytes (mod 8), and which range the second one has (div 16). -/
def firstT (x : Nat) : Nat :=
  if x < 128 then 240 else if x < 194 then 241 else if x < 224 then 2 else if x = 224 then 19 else if x < 237 then 3 else if x = 237 then 35 else if x < 240 then 3 else if x = 240 then 52 else if x < 244 then 4 else if x = 244 then 68 else 241
def accLo (i : Nat) : Nat := if i = 0 then 128 else if i = 1 then 160 else if i = 2 then 128 else if i = 3 then 144 else if i = 4 then 128 else 0
def accHi (i : Nat) : Nat := if i = 0 then 191 else if i = 1 then 191 else if i = 2 then 159 else if i = 3 then 191 else if i = 4 then 143 else 0

/-- The two tables as they lie in memory. -/
structure Tabs (w : World) : Prop where
  first : ∀ x, x < 256 → w.cell? ⟨2, x, none⟩ = some (.int .u8 (firstT x : Int))
  lo : ∀ i, i < 16 → w.cell? ⟨3, 2 * i, none⟩ = some (.int .u8 (accLo i : Int))
  hi : ∀ i, i < 16 → w.cell? ⟨3, 2 * i + 1, none⟩ = some (.int .u8 (accHi i : Int))

theorem Tabs.keep {w w' : World} (h : Tabs w) (h2 : w'.heap[2]? = w.heap[2]?) (h3 : w'.heap[3]? = w.heap[3]?) : Tabs w' :=
  ⟨fun x hx => (World.cell?_of_block (w := w) (a := ⟨2, x, none⟩) h2).trans (h.first x hx), fun i hi => (World.cell?_of_block (w := w) (a := ⟨3, 2 * i, none⟩) h3).trans (h.lo i hi), fun i hi => (World.cell?_of_block (w := w) (a := ⟨3, 2 * i + 1, none⟩) h3).trans (h.hi i hi)⟩

/-- Memory holds the decoder at D in a plain state: the text's block T, the block E of unescaped bytes. -/
structure Rep (w : World) (B D T E : Nat) (sk : Bool) (s : DSt) : Prop where
  B3 : 3 < B
  tabs : Tabs w
  bD : B ≤ D
  bT : B ≤ T
  DT : D ≠ T
  DE : D ≠ E
  TE : T ≠ E
  dec : ∃ C ec, s.t.length ≤ C ∧ C ≤ maxLen ∧ IsDec w D T s.t.length C s.r0 s.r1 s.sec sk (.slice (some ⟨E, 0, none⟩) s.esc.length ec) s.line ∧
    w.ownsRow B 5 1 (.slice (some ⟨E, 0, none⟩) s.esc.length ec) s.esc.length (s.esc.map byteV)
  text : ∃ tc fr, w.heap[T]? = some (.cells tc 5 fr) ∧ tc.toList.take s.t.length = s.t.map byteV
  le1 : s.r1 ≤ s.t.length
  small : s.t.length ≤ 900
  sec5 : s.sec ≤ 5
  le0 : s.r0 ≤ s.r1
  esc1 : s.esc.length ≤ 2000
  line0 : -10000 ≤ s.line
  line1 : s.line ≤ 10000

/-- Only the decoder's own block D, and new ones, have turned. -/
structure Stp (D E : Nat) (w : World) (E' : Nat) (w' : World) : Prop where
  os : w'.os = w.os
  tape : w'.tape = w.tape
  output : w'.output = w.output
  size : w.heap.size ≤ w'.heap.size
  block : ∀ k, k < w.heap.size → k ≠ D → w'.heap[k]? = w.heap[k]?
  esc : E' = E

theorem Stp.refl (D E : Nat) (w : World) : Stp D E w E w := ⟨rfl, rfl, rfl, Nat.le_refl _, fun _ _ _ => rfl, rfl⟩

theorem Stp.trans {D E E' E'' : Nat} {a b c : World} (h : Stp D E a E' b) (k : Stp D E' b E'' c) : Stp D E a E'' c :=
  ⟨k.os.trans h.os, k.tape.trans h.tape, k.output.trans h.output, Nat.le_trans h.size k.size, fun i hi hd => by rw [k.block i (Nat.lt_of_lt_of_le hi h.size) hd, h.block i hi hd], k.esc.trans h.esc⟩

theorem Stp.drewN {D E E' : Nat} {a b : World} (h : Stp D E a E' b) (n : Nat) : Stp D E a E' (b.drewN n) := ⟨h.os, h.tape, h.output, h.size, h.block, h.esc⟩

theorem Stp.drew {D E E' : Nat} {a b : World} (h : Stp D E a E' b) : Stp D E a E' b.drew := ⟨h.os, h.tape, h.output, h.size, h.block, h.esc⟩

theorem Stp.alloc {D E E' : Nat} {a b : World} (h : Stp D E a E' b) (o : Obj) : Stp D E a E' (b.alloc o) :=
  ⟨h.os, h.tape, h.output, by have := h.size; simp; omega, fun k hk hd => by rw [Below.heap_alloc _ _ _ (Nat.lt_of_lt_of_le hk h.size)]; exact h.block k hk hd, h.esc⟩

theorem Stp.setD {D E E' : Nat} {a b : World} (h : Stp D E a E' b) (o : Nat) (v : Value) : Stp D E a E' (b.setCell ⟨D, o, none⟩ v) :=
  ⟨h.os, h.tape, h.output, by have := h.size; simp [World.setCell]; omega, fun k hk hd => by rw [Below.heap_setCell _ _ _ _ hd]; exact h.block k hk hd, h.esc⟩

/-- A new block of the call's own, written. -/
theorem Stp.setNew {D E E' : Nat} {a b : World} (h : Stp D E a E' b) {p : Addr} (hp : a.heap.size ≤ p.block) (v : Value) : Stp D E a E' (b.setCell p v) :=
  ⟨h.os, h.tape, h.output, by have := h.size; simp [World.setCell]; omega, fun k hk hd => by rw [Below.heap_setCell _ _ _ _ (by omega)]; exact h.block k hk hd, h.esc⟩

/-- What makes memory alone. -/
theorem Stp.below {D E E' : Nat} {a b c : World} (h : Stp D E a E' b) (k : Below b.heap.size b c) : Stp D E a E' c :=
  ⟨k.os.trans h.os, k.tape.trans h.tape, k.output.trans h.output, Nat.le_trans h.size k.size, fun i hi hd => by rw [k.block i (Nat.lt_of_lt_of_le hi h.size)]; exact h.block i hi hd, h.esc⟩

theorem Stp.toBelow {B D E E' : Nat} {a b : World} (h : Stp D E a E' b) (hD : B ≤ D) (hB : B ≤ a.heap.size) : Below B a b :=
  ⟨h.os, h.tape, h.output, h.size, fun k hk => h.block k (by omega) (by omega)⟩

/-- Another block's cells stay. -/
theorem Stp.cell {D E E' : Nat} {a b : World} (h : Stp D E a E' b) {p : Addr} (hp : p.block < a.heap.size) (hd : p.block ≠ D) : b.cell? p = a.cell? p :=
  World.cell?_of_block (w := a) (h.block p.block hp hd)

/-- The decoder's own blocks D and E, and new ones, have turned; the first n of E's cells have not. -/
structure Stw (n D E : Nat) (w : World) (E' : Nat) (w' : World) : Prop where
  os : w'.os = w.os
  tape : w'.tape = w.tape
  output : w'.output = w.output
  size : w.heap.size ≤ w'.heap.size
  block : ∀ k, k < w.heap.size → k ≠ D → k ≠ E → w'.heap[k]? = w.heap[k]?
  esc : E' = E ∨ w.heap.size ≤ E'
  inE : E < w.heap.size
  keep : ∀ i, i < n → w'.cell? ⟨E, i, none⟩ = w.cell? ⟨E, i, none⟩

theorem Stp.weak {D E E' : Nat} {a b : World} (h : Stp D E a E' b) (n : Nat) (hE : E < a.heap.size) (hDE : D ≠ E) : Stw n D E a E' b :=
  ⟨h.os, h.tape, h.output, h.size, fun k hk hd _ => h.block k hk hd, .inl h.esc, hE, fun _ _ => h.cell (p := ⟨E, _, none⟩) hE (fun e => hDE e.symm)⟩

theorem Stw.trans {n m D E E' E'' : Nat} {a b c : World} (h : Stw n D E a E' b) (k : Stw m D E' b E'' c) (hnm : n ≤ m) (hDE : D ≠ E) : Stw n D E a E'' c := by
  have hs := h.size
  have hi := h.inE
  refine ⟨k.os.trans h.os, k.tape.trans h.tape, k.output.trans h.output, Nat.le_trans hs k.size, fun i hi hd he => ?_, ?_, hi, fun i hn => ?_⟩
  · rw [k.block i (Nat.lt_of_lt_of_le hi hs) hd (by rcases h.esc with e | e <;> omega), h.block i hi hd he]
  · rcases k.esc with e | e
    · rw [e]; exact h.esc
    · exact .inr (Nat.le_trans hs e)
  · rcases h.esc with e | e
    · subst e
      rw [k.keep i (by omega), h.keep i hn]
    · rw [World.cell?_of_block (w := b) (a := ⟨E, i, none⟩) (k.block E (by omega) (fun e' => hDE e'.symm) (by omega)), h.keep i hn]

theorem Stw.less {n m D E E' : Nat} {a b : World} (h : Stw n D E a E' b) (hm : m ≤ n) : Stw m D E a E' b := ⟨h.os, h.tape, h.output, h.size, h.block, h.esc, h.inE, fun i hi => h.keep i (by omega)⟩

theorem Stw.toBelow {n B D E E' : Nat} {a b : World} (h : Stw n D E a E' b) (hD : B ≤ D) (hE : B ≤ E) (hB : B ≤ a.heap.size) : Below B a b :=
  ⟨h.os, h.tape, h.output, h.size, fun k hk => h.block k (by omega) (by omega) (by omega)⟩

section
variable {w : World} {B D T E : Nat} {sk : Bool} {s : DSt}

theorem Rep.lt (h : Rep w B D T E sk s) : D < w.heap.size ∧ T < w.heap.size ∧ E < w.heap.size ∧ B ≤ E := by
  obtain ⟨C, ec, _, _, hd, ho⟩ := h.dec
  obtain ⟨tc, fr, ht, _⟩ := h.text
  have hE := ho.lt E rfl
  exact ⟨lt_of_block hd, lt_of_block ht, hE.2, hE.1⟩

/-- What a walk reads of the decoder. -/
theorem Rep.cellsD (h : Rep w B D T E sk s) : ∃ C ec, IsDec w D T s.t.length C s.r0 s.r1 s.sec sk (.slice (some ⟨E, 0, none⟩) s.esc.length ec) s.line ∧ s.t.length ≤ C ∧ C ≤ maxLen ∧ s.esc.length ≤ ec ∧ ec ≤ maxLen ∧
    w.cell? ⟨D, 0, none⟩ = some .nilIface ∧ w.cell? ⟨D, 1, none⟩ = some (.slice (some ⟨T, 0, none⟩) s.t.length C) ∧ w.cell? ⟨D, 2, none⟩ = some (.int .i64 s.r0) ∧ w.cell? ⟨D, 3, none⟩ = some (.int .i64 s.r1) ∧
    w.cell? ⟨D, 4, none⟩ = some (.bool true) ∧ w.cell? ⟨D, 5, none⟩ = some (.int .u8 s.sec) ∧ w.cell? ⟨D, 6, none⟩ = some (.bool sk) ∧ w.cell? ⟨D, 7, none⟩ = some (.slice (some ⟨E, 0, none⟩) s.esc.length ec) ∧
    w.cell? ⟨D, 8, none⟩ = some (.int .i64 s.line) ∧ w.cell? ⟨D, 9, none⟩ = some .nilIface ∧ (∀ o, w.frozen? ⟨D, o, none⟩ = false) ∧
    w.ownsRow B 5 1 (.slice (some ⟨E, 0, none⟩) s.esc.length ec) s.esc.length (s.esc.map byteV) := by
  obtain ⟨C, ec, hC, hC2, hd, ho⟩ := h.dec
  have hcell : ∀ o, w.cell? ⟨D, o, none⟩ = (decCells T s.t.length C s.r0 s.r1 s.sec sk (.slice (some ⟨E, 0, none⟩) s.esc.length ec) s.line)[o]? := fun o => cell_of_row w D o _ _ _ hd
  have he : s.esc.length ≤ ec ∧ ec ≤ maxLen := by
    rcases ho.2 with ⟨hv, _⟩ | ⟨g, cap, cur, hv, _, _, h1, h2, _⟩
    · cases hv
    · cases hv; exact ⟨h1, h2⟩
  refine ⟨C, ec, hd, hC, hC2, he.1, he.2, ?_, ?_, ?_, ?_, ?_, ?_, ?_, ?_, ?_, ?_, fun o => frozen_of_row w D o _ _ hd, ho⟩ <;> (rw [hcell]; rfl)

theorem Rep.cells (h : Rep w B D T E sk s) : ∃ C ec, s.t.length ≤ C ∧ C ≤ maxLen ∧ s.esc.length ≤ ec ∧ ec ≤ maxLen ∧
    w.cell? ⟨D, 0, none⟩ = some .nilIface ∧ w.cell? ⟨D, 1, none⟩ = some (.slice (some ⟨T, 0, none⟩) s.t.length C) ∧ w.cell? ⟨D, 2, none⟩ = some (.int .i64 s.r0) ∧ w.cell? ⟨D, 3, none⟩ = some (.int .i64 s.r1) ∧
    w.cell? ⟨D, 4, none⟩ = some (.bool true) ∧ w.cell? ⟨D, 5, none⟩ = some (.int .u8 s.sec) ∧ w.cell? ⟨D, 6, none⟩ = some (.bool sk) ∧ w.cell? ⟨D, 7, none⟩ = some (.slice (some ⟨E, 0, none⟩) s.esc.length ec) ∧
    w.cell? ⟨D, 8, none⟩ = some (.int .i64 s.line) ∧ w.cell? ⟨D, 9, none⟩ = some .nilIface ∧ (∀ o, w.frozen? ⟨D, o, none⟩ = false) ∧
    w.ownsRow B 5 1 (.slice (some ⟨E, 0, none⟩) s.esc.length ec) s.esc.length (s.esc.map byteV) := by
  obtain ⟨C, ec, _, r⟩ := h.cellsD
  exact ⟨C, ec, r⟩

/-- The text's bytes, as cells. -/
theorem Rep.byte (h : Rep w B D T E sk s) (i : Nat) (hi : i < s.t.length) : w.cell? ⟨T, i, none⟩ = some (.int .u8 ((s.t[i]'hi).toNat : Int)) := by
  obtain ⟨tc, fr, ht, he⟩ := h.text
  rw [cell_of_row w T i _ _ _ ht]
  have h2 : (tc.toList.take s.t.length)[i]? = some (byteV s.t[i]) := by rw [he]; simp [hi]
  rw [List.getElem?_take, if_pos hi] at h2
  simpa [byteV] using h2

/-- The decoder's fields turned; its text and its buffer's bytes stay. -/
theorem Rep.remake (h : Rep w B D T E sk s) {w' : World} {C ec : Nat} (hd0 : IsDec w D T s.t.length C s.r0 s.r1 s.sec sk (.slice (some ⟨E, 0, none⟩) s.esc.length ec) s.line)
    (hO : ∀ k, k ≠ D → w'.heap[k]? = w.heap[k]?) {sk' : Bool} {s' : DSt}
    (hd' : IsDec w' D T s'.t.length C s'.r0 s'.r1 s'.sec sk' (.slice (some ⟨E, 0, none⟩) s'.esc.length ec) s'.line)
    (n : Nat) (ht : s'.t = s.t.take n) (m : Nat) (he : s'.esc = s.esc.take m) (l1 : s'.r1 ≤ s'.t.length) (h5 : s'.sec ≤ 5) (hes : s'.r0 ≤ s'.r1) (n0 : -10000 ≤ s'.line) (n1 : s'.line ≤ 10000) :
    Rep w' B D T E sk' s' := by
  obtain ⟨C2, ec2, hC, hC2, hd, ho⟩ := h.dec
  obtain ⟨tc, fr, htx, htt⟩ := h.text
  have hsm := h.small
  have hcc := hd0.symm.trans hd
  simp only [decCells, Option.some.injEq, Obj.cells.injEq, Array.mk.injEq, List.cons.injEq, Value.slice.injEq, true_and, and_true] at hcc
  obtain ⟨rfl, rfl⟩ := hcc
  have hB3 := h.B3
  have hbD := h.bD
  have hT := hO T (fun e => h.DT e.symm)
  have hE := hO E (fun e => h.DE e.symm)
  have htl : s'.t.length ≤ s.t.length := by rw [ht]; simp; omega
  have hel : s'.esc.length ≤ s.esc.length := by rw [he]; simp; omega
  refine ⟨h.B3, h.tabs.keep (hO 2 (by omega)) (hO 3 (by omega)), h.bD, h.bT, h.DT, h.DE, h.TE, ⟨C, ec, by omega, hC2, hd', ?_⟩, ⟨tc, fr, ?_, ?_⟩, l1, by omega, h5, hes, by have := h.esc1; omega, n0, n1⟩
  · rcases ho with ⟨h1, ⟨hv, _⟩ | ⟨g, cap, cur, hv, hb, hg, c1, c2, c3, c4⟩⟩
    · cases hv
    · cases hv
      refine ⟨by simp, .inr ⟨E, ec, cur, rfl, hb, ?_, by omega, c2, c3, ?_⟩⟩
      · rw [hE]; exact hg
      · rw [he, List.map_take, ← c4, List.take_take]
        simp only [Nat.mul_one, List.length_take]
  · rw [hT]; exact htx
  · rw [ht, List.map_take, ← htt, List.take_take, List.length_take]

/-- The decoder's fields turned: a store into D. -/
theorem Rep.set (h : Rep w B D T E sk s) (o : Nat) (v : Value) {sk' : Bool} {s' : DSt}
    (hcells : ∀ C ec, (decCells T s.t.length C s.r0 s.r1 s.sec sk (.slice (some ⟨E, 0, none⟩) s.esc.length ec) s.line).setIfInBounds o v = decCells T s'.t.length C s'.r0 s'.r1 s'.sec sk' (.slice (some ⟨E, 0, none⟩) s'.esc.length ec) s'.line)
    (n : Nat) (ht : s'.t = s.t.take n) (m : Nat) (he : s'.esc = s.esc.take m) (l1 : s'.r1 ≤ s'.t.length) (h5 : s'.sec ≤ 5) (hes : s'.r0 ≤ s'.r1) (n0 : -10000 ≤ s'.line) (n1 : s'.line ≤ 10000) :
    Rep (w.setCell ⟨D, o, none⟩ v) B D T E sk' s' := by
  obtain ⟨C, ec, _, _, hd, _⟩ := h.dec
  refine h.remake hd (fun k hk => heap_setCell_other w _ k v hk) ?_ n ht m he l1 h5 hes n0 n1
  unfold IsDec
  rw [heap_setCell_same w D o _ _ v hd, hcells]

theorem Rep.setR1 (h : Rep w B D T E sk s) (x : Nat) (h0 : s.r0 ≤ x) (h1 : x ≤ s.t.length) : Rep (w.setCell ⟨D, 3, none⟩ (.int .i64 (x : Int))) B D T E sk { s with r1 := x } :=
  h.set 3 _ (fun C ec => rfl) s.t.length (by simp) s.esc.length (by simp) h1 h.sec5 h0 h.line0 h.line1

theorem Rep.setSec (h : Rep w B D T E sk s) (x : Nat) (h5 : x ≤ 5) : Rep (w.setCell ⟨D, 5, none⟩ (.int .u8 (x : Int))) B D T E sk { s with sec := x } :=
  h.set 5 _ (fun C ec => rfl) s.t.length (by simp) s.esc.length (by simp) h.le1 h5 h.le0 h.line0 h.line1

theorem Rep.setSk (h : Rep w B D T E sk s) (x : Bool) : Rep (w.setCell ⟨D, 6, none⟩ (.bool x)) B D T E x s :=
  h.set 6 _ (fun C ec => rfl) s.t.length (by simp) s.esc.length (by simp) h.le1 h.sec5 h.le0 h.line0 h.line1

theorem Rep.setLine (h : Rep w B D T E sk s) (x : Int) (n0 : -10000 ≤ x) (n1 : x ≤ 10000) : Rep (w.setCell ⟨D, 8, none⟩ (.int .i64 x)) B D T E sk { s with line := x } :=
  h.set 8 _ (fun C ec => rfl) s.t.length (by simp) s.esc.length (by simp) h.le1 h.sec5 h.le0 n0 n1

/-- The decoder stays where only new memory was made. -/
theorem Rep.keep (h : Rep w B D T E sk s) {w' : World} (hk : ∀ k, k < w.heap.size → w'.heap[k]? = w.heap[k]?) : Rep w' B D T E sk s := by
  have hl := h.lt
  have hB3 := h.B3
  have hbD := h.bD
  obtain ⟨C, ec, hC, hC2, hd, h1, ho⟩ := h.dec
  obtain ⟨tc, fr, htx, htt⟩ := h.text
  refine ⟨h.B3, h.tabs.keep (hk 2 (by omega)) (hk 3 (by omega)), h.bD, h.bT, h.DT, h.DE, h.TE, ⟨C, ec, hC, hC2, ?_, h1, ?_⟩, ⟨tc, fr, by rw [hk T hl.2.1]; exact htx, htt⟩, h.le1, h.small, h.sec5, h.le0, h.esc1, h.line0, h.line1⟩
  · unfold IsDec; rw [hk D hl.1]; exact hd
  · rcases ho with ⟨hv, _⟩ | ⟨g, cap, cur, hv, hb, hg, r⟩
    · cases hv
    · cases hv; exact .inr ⟨E, ec, cur, rfl, hb, by rw [hk E hl.2.2.1]; exact hg, r⟩

theorem Rep.below (h : Rep w B D T E sk s) {w' : World} (k : Below w.heap.size w w') : Rep w' B D T E sk s := h.keep k.block

theorem Rep.alloc (h : Rep w B D T E sk s) (o : Obj) : Rep (w.alloc o) B D T E sk s := h.below ((Below.refl _ _).alloc (Nat.le_refl _) o)
theorem Rep.drew (h : Rep w B D T E sk s) : Rep w.drew B D T E sk s := h.below (Below.refl _ _).drew
theorem Rep.drewN (h : Rep w B D T E sk s) (n : Nat) : Rep (w.drewN n) B D T E sk s := h.keep fun _ _ => rfl
end

/-- A slice value that reads as these bytes; it is not nil. -/
def BytesIs (w : World) (v : Value) (l : List UInt8) : Prop :=
  ∃ b o c, v = .slice (some ⟨b, o, none⟩) l.length c ∧ l.length ≤ c ∧ c ≤ maxLen ∧ b < w.heap.size ∧ ∀ i (h : i < l.length), w.cell? ⟨b, o + i, none⟩ = some (.int .u8 ((l[i]'h).toNat : Int))

/-- What a call of a method of the decoder leaves that may turn the buffer of unescaped bytes. -/
def DW (B D T E : Nat) (sk : Bool) (w : World) (n : Nat) (s' : DSt) (R : World → Nat → Value → Prop) (e : Ending) (w' : World) : Prop :=
  ∃ E' v, e = .returned v ∧ R w' E' v ∧ Rep w' B D T E' sk s' ∧ Stw n D E w E' w'

/-- What a call of a method of the decoder leaves: its result, the decoder in a new state. A plain name, so that the walk does not look inside. -/
def DP (B D T E : Nat) (sk : Bool) (w : World) (s' : DSt) (R : World → Value → Prop) (e : Ending) (w' : World) : Prop :=
  ∃ E' v, e = .returned v ∧ R w' v ∧ Rep w' B D T E' sk s' ∧ Stp D E w E' w'

end Go.Proofs.YtejlokdcocacaaaGreatDoor
