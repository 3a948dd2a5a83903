/- What memory looks like around the decoder: its ten fields, its text, its buffer of unescaped bytes; what a call leaves alone. Nothing of the program is named here but type numbers. -/
import Derived.WalkKit
import Derived.WalkSpells
import Derived.Deep.Draws
import Derived.Test.YtejlokdcocacaaaGreatDoorProg
import Derived.WalkLawsBesides
import Derived.Deep.WholeRow
import Derived.Deep.QuietTactic
import Derived.BigQuiet
import Derived.Great.Walk
namespace Go.Proofs.YtejlokdcocacaaaGreatDoor
open Go.RowKit

/-- A fact kept from the walk. -/
theorem hid {p : Prop} (h : p) : Hid p := h

/-- A byte as a cell. -/
def byteV (c : UInt8) : Value := .int .u8 (c.toNat : Int)

/-- The decoder's fields. -/
def decCells (T L C r0 r1 sec : Nat) (sk : Bool) (ev : Value) (line : Int) : Array Value :=
  #[.nilIface, .slice (some ⟨T, 0, none⟩) L C, .int .i64 (r0 : Int), .int .i64 (r1 : Int), .bool true, .int .u8 (sec : Int), .bool sk, ev, .int .i64 line, .nilIface]

/-- Block D holds the decoder's fields. -/
def IsDec (w : World) (D T L C r0 r1 sec : Nat) (sk : Bool) (ev : Value) (line : Int) : Prop :=
  w.heap[D]? = some (.cells (decCells T L C r0 r1 sec sk ev line) 92 (0, 0))

/-- The plain state: the buffer's bytes, where the entry began, where reading stands, the section, the unescaped bytes, the line. -/
structure DSt where
  t : List UInt8
  r0 : Nat
  r1 : Nat
  sec : Nat
  esc : List UInt8
  line : Int

def DSt.rest (s : DSt) : List UInt8 := s.t.drop s.r1

/-- Go's table of lead bytes of UTF-8: how many bytes (mod 8), and which range the second one has (div 16). -/
def firstT (x : Nat) : Nat :=
  if x < 128 then 240 else if x < 194 then 241 else if x < 224 then 2 else if x = 224 then 19 else if x < 237 then 3 else if x = 237 then 35 else if x < 240 then 3 else if x = 240 then 52 else if x < 244 then 4 else if x = 244 then 68 else 241
def accLo (i : Nat) : Nat := if i = 0 then 128 else if i = 1 then 160 else if i = 2 then 128 else if i = 3 then 144 else if i = 4 then 128 else 0
def accHi (i : Nat) : Nat := if i = 0 then 191 else if i = 1 then 191 else if i = 2 then 159 else if i = 3 then 191 else if i = 4 then 143 else 0

/-- The two tables as they lie in memory. -/
structure Tabs (w : World) : Prop where
  first : ∀ x, x < 256 → w.cell? ⟨2, x, none⟩ = some (.int .u8 (firstT x : Int))
  lo : ∀ i, i < 16 → w.cell? ⟨3, 2 * i, none⟩ = some (.int .u8 (accLo i : Int))
  hi : ∀ i, i < 16 → w.cell? ⟨3, 2 * i + 1, none⟩ = some (.int .u8 (accHi i : Int))

theorem Tabs.keep {w w' : World} (h : Tabs w) (h2 : w'.heap[2]? = w.heap[2]?) (h3 : w'.heap[3]? = w.heap[3]?) : Tabs w' :=
  ⟨fun x hx => (World.cell?_of_block (w := w) (a := ⟨2, x, none⟩) h2).trans (h.first x hx), fun i hi => (World.cell?_of_block (w := w) (a := ⟨3, 2 * i, none⟩) h3).trans (h.lo i hi), fun i hi => (World.cell?_of_block (w := w) (a := ⟨3, 2 * i + 1, none⟩) h3).trans (h.hi i hi)⟩

/-- Memory holds the decoder at D in a plain state: the text's block T, the block E of unescaped bytes. -/
structure Rep (w : World) (B D T E : Nat) (sk : Bool) (s : DSt) : Prop where
  B3 : 3 < B
  tabs : Tabs w
  bD : B ≤ D
  bT : B ≤ T
  DT : D ≠ T
  DE : D ≠ E
  TE : T ≠ E
  dec : ∃ C ec, s.t.length ≤ C ∧ C ≤ maxLen ∧ IsDec w D T s.t.length C s.r0 s.r1 s.sec sk (.slice (some ⟨E, 0, none⟩) s.esc.length ec) s.line ∧
    w.ownsRow B 5 1 (.slice (some ⟨E, 0, none⟩) s.esc.length ec) s.esc.length (s.esc.map byteV)
  text : ∃ tc fr, w.heap[T]? = some (.cells tc 5 fr) ∧ tc.toList.take s.t.length = s.t.map byteV
  le1 : s.r1 ≤ s.t.length
  small : s.t.length ≤ 900
  sec5 : s.sec ≤ 5
  le0 : s.r0 ≤ s.r1
  esc1 : s.esc.length ≤ 2000
  line0 : -10000 ≤ s.line
  line1 : s.line ≤ 10000

/-- Only the decoder's own block D, and new ones, have turned. -/
structure Stp (D E : Nat) (w : World) (E' : Nat) (w' : World) : Prop where
  os : w'.os = w.os
  tape : w'.tape = w.tape
  output : w'.output = w.output
  size : w.heap.size ≤ w'.heap.size
  block : ∀ k, k < w.heap.size → k ≠ D → w'.heap[k]? = w.heap[k]?
  esc : E' = E

theorem Stp.refl (D E : Nat) (w : World) : Stp D E w E w := ⟨rfl, rfl, rfl, Nat.le_refl _, fun _ _ _ => rfl, rfl⟩

theorem Stp.trans {D E E' E'' : Nat} {a b c : World} (h : Stp D E a E' b) (k : Stp D E' b E'' c) : Stp D E a E'' c :=
  ⟨k.os.trans h.os, k.tape.trans h.tape, k.output.trans h.output, Nat.le_trans h.size k.size, fun i hi hd => by rw [k.block i (Nat.lt_of_lt_of_le hi h.size) hd, h.block i hi hd], k.esc.trans h.esc⟩

theorem Stp.drewN {D E E' : Nat} {a b : World} (h : Stp D E a E' b) (n : Nat) : Stp D E a E' (b.drewN n) := ⟨h.os, h.tape, h.output, h.size, h.block, h.esc⟩

theorem Stp.drew {D E E' : Nat} {a b : World} (h : Stp D E a E' b) : Stp D E a E' b.drew := ⟨h.os, h.tape, h.output, h.size, h.block, h.esc⟩

theorem Stp.alloc {D E E' : Nat} {a b : World} (h : Stp D E a E' b) (o : Obj) : Stp D E a E' (b.alloc o) :=
  ⟨h.os, h.tape, h.output, by have := h.size; simp; omega, fun k hk hd => by rw [Below.heap_alloc _ _ _ (Nat.lt_of_lt_of_le hk h.size)]; exact h.block k hk hd, h.esc⟩

theorem Stp.setD {D E E' : Nat} {a b : World} (h : Stp D E a E' b) (o : Nat) (v : Value) : Stp D E a E' (b.setCell ⟨D, o, none⟩ v) :=
  ⟨h.os, h.tape, h.output, by have := h.size; simp [World.setCell]; omega, fun k hk hd => by rw [Below.heap_setCell _ _ _ _ hd]; exact h.block k hk hd, h.esc⟩

/-- A new block of the call's own, written. -/
theorem Stp.setNew {D E E' : Nat} {a b : World} (h : Stp D E a E' b) {p : Addr} (hp : a.heap.size ≤ p.block) (v : Value) : Stp D E a E' (b.setCell p v) :=
  ⟨h.os, h.tape, h.output, by have := h.size; simp [World.setCell]; omega, fun k hk hd => by rw [Below.heap_setCell _ _ _ _ (by omega)]; exact h.block k hk hd, h.esc⟩

/-- What makes memory alone. -/
theorem Stp.below {D E E' : Nat} {a b c : World} (h : Stp D E a E' b) (k : Below b.heap.size b c) : Stp D E a E' c :=
  ⟨k.os.trans h.os, k.tape.trans h.tape, k.output.trans h.output, Nat.le_trans h.size k.size, fun i hi hd => by rw [k.block i (Nat.lt_of_lt_of_le hi h.size)]; exact h.block i hi hd, h.esc⟩

theorem Stp.toBelow {B D E E' : Nat} {a b : World} (h : Stp D E a E' b) (hD : B ≤ D) (hB : B ≤ a.heap.size) : Below B a b :=
  ⟨h.os, h.tape, h.output, h.size, fun k hk => h.block k (by omega) (by omega)⟩

/-- Another block's cells stay. -/
theorem Stp.cell {D E E' : Nat} {a b : World} (h : Stp D E a E' b) {p : Addr} (hp : p.block < a.heap.size) (hd : p.block ≠ D) : b.cell? p = a.cell? p :=
  World.cell?_of_block (w := a) (h.block p.block hp hd)

/-- The decoder's own blocks D and E, and new ones, have turned; the first n of E's cells have not. -/
structure Stw (n D E : Nat) (w : World) (E' : Nat) (w' : World) : Prop where
  os : w'.os = w.os
  tape : w'.tape = w.tape
  output : w'.output = w.output
  size : w.heap.size ≤ w'.heap.size
  block : ∀ k, k < w.heap.size → k ≠ D → k ≠ E → w'.heap[k]? = w.heap[k]?
  esc : E' = E ∨ w.heap.size ≤ E'
  inE : E < w.heap.size
  keep : ∀ i, i < n → w'.cell? ⟨E, i, none⟩ = w.cell? ⟨E, i, none⟩

theorem Stp.weak {D E E' : Nat} {a b : World} (h : Stp D E a E' b) (n : Nat) (hE : E < a.heap.size) (hDE : D ≠ E) : Stw n D E a E' b :=
  ⟨h.os, h.tape, h.output, h.size, fun k hk hd _ => h.block k hk hd, .inl h.esc, hE, fun _ _ => h.cell (p := ⟨E, _, none⟩) hE (fun e => hDE e.symm)⟩

theorem Stw.trans {n m D E E' E'' : Nat} {a b c : World} (h : Stw n D E a E' b) (k : Stw m D E' b E'' c) (hnm : n ≤ m) (hDE : D ≠ E) : Stw n D E a E'' c := by
  have hs := h.size
  have hi := h.inE
  refine ⟨k.os.trans h.os, k.tape.trans h.tape, k.output.trans h.output, Nat.le_trans hs k.size, fun i hi hd he => ?_, ?_, hi, fun i hn => ?_⟩
  · rw [k.block i (Nat.lt_of_lt_of_le hi hs) hd (by rcases h.esc with e | e <;> omega), h.block i hi hd he]
  · rcases k.esc with e | e
    · rw [e]; exact h.esc
    · exact .inr (Nat.le_trans hs e)
  · rcases h.esc with e | e
    · subst e
      rw [k.keep i (by omega), h.keep i hn]
    · rw [World.cell?_of_block (w := b) (a := ⟨E, i, none⟩) (k.block E (by omega) (fun e' => hDE e'.symm) (by omega)), h.keep i hn]

theorem Stw.less {n m D E E' : Nat} {a b : World} (h : Stw n D E a E' b) (hm : m ≤ n) : Stw m D E a E' b := ⟨h.os, h.tape, h.output, h.size, h.block, h.esc, h.inE, fun i hi => h.keep i (by omega)⟩

theorem Stw.toBelow {n B D E E' : Nat} {a b : World} (h : Stw n D E a E' b) (hD : B ≤ D) (hE : B ≤ E) (hB : B ≤ a.heap.size) : Below B a b :=
  ⟨h.os, h.tape, h.output, h.size, fun k hk => h.block k (by omega) (by omega) (by omega)⟩

section
variable {w : World} {B D T E : Nat} {sk : Bool} {s : DSt}

theorem Rep.lt (h : Rep w B D T E sk s) : D < w.heap.size ∧ T < w.heap.size ∧ E < w.heap.size ∧ B ≤ E := by
  obtain ⟨C, ec, _, _, hd, ho⟩ := h.dec
  obtain ⟨tc, fr, ht, _⟩ := h.text
  have hE := ho.lt E rfl
  exact ⟨lt_of_block hd, lt_of_block ht, hE.2, hE.1⟩

/-- What a walk reads of the decoder. -/
theorem Rep.cellsD (h : Rep w B D T E sk s) : ∃ C ec, IsDec w D T s.t.length C s.r0 s.r1 s.sec sk (.slice (some ⟨E, 0, none⟩) s.esc.length ec) s.line ∧ s.t.length ≤ C ∧ C ≤ maxLen ∧ s.esc.length ≤ ec ∧ ec ≤ maxLen ∧
    w.cell? ⟨D, 0, none⟩ = some .nilIface ∧ w.cell? ⟨D, 1, none⟩ = some (.slice (some ⟨T, 0, none⟩) s.t.length C) ∧ w.cell? ⟨D, 2, none⟩ = some (.int .i64 s.r0) ∧ w.cell? ⟨D, 3, none⟩ = some (.int .i64 s.r1) ∧
    w.cell? ⟨D, 4, none⟩ = some (.bool true) ∧ w.cell? ⟨D, 5, none⟩ = some (.int .u8 s.sec) ∧ w.cell? ⟨D, 6, none⟩ = some (.bool sk) ∧ w.cell? ⟨D, 7, none⟩ = some (.slice (some ⟨E, 0, none⟩) s.esc.length ec) ∧
    w.cell? ⟨D, 8, none⟩ = some (.int .i64 s.line) ∧ w.cell? ⟨D, 9, none⟩ = some .nilIface ∧ (∀ o, w.frozen? ⟨D, o, none⟩ = false) ∧
    w.ownsRow B 5 1 (.slice (some ⟨E, 0, none⟩) s.esc.length ec) s.esc.length (s.esc.map byteV) := by
  obtain ⟨C, ec, hC, hC2, hd, ho⟩ := h.dec
  have hcell : ∀ o, w.cell? ⟨D, o, none⟩ = (decCells T s.t.length C s.r0 s.r1 s.sec sk (.slice (some ⟨E, 0, none⟩) s.esc.length ec) s.line)[o]? := fun o => cell_of_row w D o _ _ _ hd
  have he : s.esc.length ≤ ec ∧ ec ≤ maxLen := by
    rcases ho.2 with ⟨hv, _⟩ | ⟨g, cap, cur, hv, _, _, h1, h2, _⟩
    · cases hv
    · cases hv; exact ⟨h1, h2⟩
  refine ⟨C, ec, hd, hC, hC2, he.1, he.2, ?_, ?_, ?_, ?_, ?_, ?_, ?_, ?_, ?_, ?_, fun o => frozen_of_row w D o _ _ hd, ho⟩ <;> (rw [hcell]; rfl)

theorem Rep.cells (h : Rep w B D T E sk s) : ∃ C ec, s.t.length ≤ C ∧ C ≤ maxLen ∧ s.esc.length ≤ ec ∧ ec ≤ maxLen ∧
    w.cell? ⟨D, 0, none⟩ = some .nilIface ∧ w.cell? ⟨D, 1, none⟩ = some (.slice (some ⟨T, 0, none⟩) s.t.length C) ∧ w.cell? ⟨D, 2, none⟩ = some (.int .i64 s.r0) ∧ w.cell? ⟨D, 3, none⟩ = some (.int .i64 s.r1) ∧
    w.cell? ⟨D, 4, none⟩ = some (.bool true) ∧ w.cell? ⟨D, 5, none⟩ = some (.int .u8 s.sec) ∧ w.cell? ⟨D, 6, none⟩ = some (.bool sk) ∧ w.cell? ⟨D, 7, none⟩ = some (.slice (some ⟨E, 0, none⟩) s.esc.length ec) ∧
    w.cell? ⟨D, 8, none⟩ = some (.int .i64 s.line) ∧ w.cell? ⟨D, 9, none⟩ = some .nilIface ∧ (∀ o, w.frozen? ⟨D, o, none⟩ = false) ∧
    w.ownsRow B 5 1 (.slice (some ⟨E, 0, none⟩) s.esc.length ec) s.esc.length (s.esc.map byteV) := by
  obtain ⟨C, ec, _, r⟩ := h.cellsD
  exact ⟨C, ec, r⟩

/-- The text's bytes, as cells. -/
theorem Rep.byte (h : Rep w B D T E sk s) (i : Nat) (hi : i < s.t.length) : w.cell? ⟨T, i, none⟩ = some (.int .u8 ((s.t[i]'hi).toNat : Int)) := by
  obtain ⟨tc, fr, ht, he⟩ := h.text
  rw [cell_of_row w T i _ _ _ ht]
  have h2 : (tc.toList.take s.t.length)[i]? = some (byteV s.t[i]) := by rw [he]; simp [hi]
  rw [List.getElem?_take, if_pos hi] at h2
  simpa [byteV] using h2

/-- The decoder's fields turned; its text and its buffer's bytes stay. -/
theorem Rep.remake (h : Rep w B D T E sk s) {w' : World} {C ec : Nat} (hd0 : IsDec w D T s.t.length C s.r0 s.r1 s.sec sk (.slice (some ⟨E, 0, none⟩) s.esc.length ec) s.line)
    (hO : ∀ k, k ≠ D → w'.heap[k]? = w.heap[k]?) {sk' : Bool} {s' : DSt}
    (hd' : IsDec w' D T s'.t.length C s'.r0 s'.r1 s'.sec sk' (.slice (some ⟨E, 0, none⟩) s'.esc.length ec) s'.line)
    (n : Nat) (ht : s'.t = s.t.take n) (m : Nat) (he : s'.esc = s.esc.take m) (l1 : s'.r1 ≤ s'.t.length) (h5 : s'.sec ≤ 5) (hes : s'.r0 ≤ s'.r1) (n0 : -10000 ≤ s'.line) (n1 : s'.line ≤ 10000) :
    Rep w' B D T E sk' s' := by
  obtain ⟨C2, ec2, hC, hC2, hd, ho⟩ := h.dec
  obtain ⟨tc, fr, htx, htt⟩ := h.text
  have hsm := h.small
  have hcc := hd0.symm.trans hd
  simp only [decCells, Option.some.injEq, Obj.cells.injEq, Array.mk.injEq, List.cons.injEq, Value.slice.injEq, true_and, and_true] at hcc
  obtain ⟨rfl, rfl⟩ := hcc
  have hB3 := h.B3
  have hbD := h.bD
  have hT := hO T (fun e => h.DT e.symm)
  have hE := hO E (fun e => h.DE e.symm)
  have htl : s'.t.length ≤ s.t.length := by rw [ht]; simp; omega
  have hel : s'.esc.length ≤ s.esc.length := by rw [he]; simp; omega
  refine ⟨h.B3, h.tabs.keep (hO 2 (by omega)) (hO 3 (by omega)), h.bD, h.bT, h.DT, h.DE, h.TE, ⟨C, ec, by omega, hC2, hd', ?_⟩, ⟨tc, fr, ?_, ?_⟩, l1, by omega, h5, hes, by have := h.esc1; omega, n0, n1⟩
  · rcases ho with ⟨h1, ⟨hv, _⟩ | ⟨g, cap, cur, hv, hb, hg, c1, c2, c3, c4⟩⟩
    · cases hv
    · cases hv
      refine ⟨by simp, .inr ⟨E, ec, cur, rfl, hb, ?_, by omega, c2, c3, ?_⟩⟩
      · rw [hE]; exact hg
      · rw [he, List.map_take, ← c4, List.take_take]
        simp only [Nat.mul_one, List.length_take]
  · rw [hT]; exact htx
  · rw [ht, List.map_take, ← htt, List.take_take, List.length_take]

/-- The decoder's fields turned: a store into D. -/
theorem Rep.set (h : Rep w B D T E sk s) (o : Nat) (v : Value) {sk' : Bool} {s' : DSt}
    (hcells : ∀ C ec, (decCells T s.t.length C s.r0 s.r1 s.sec sk (.slice (some ⟨E, 0, none⟩) s.esc.length ec) s.line).setIfInBounds o v = decCells T s'.t.length C s'.r0 s'.r1 s'.sec sk' (.slice (some ⟨E, 0, none⟩) s'.esc.length ec) s'.line)
    (n : Nat) (ht : s'.t = s.t.take n) (m : Nat) (he : s'.esc = s.esc.take m) (l1 : s'.r1 ≤ s'.t.length) (h5 : s'.sec ≤ 5) (hes : s'.r0 ≤ s'.r1) (n0 : -10000 ≤ s'.line) (n1 : s'.line ≤ 10000) :
    Rep (w.setCell ⟨D, o, none⟩ v) B D T E sk' s' := by
  obtain ⟨C, ec, _, _, hd, _⟩ := h.dec
  refine h.remake hd (fun k hk => heap_setCell_other w _ k v hk) ?_ n ht m he l1 h5 hes n0 n1
  unfold IsDec
  rw [heap_setCell_same w D o _ _ v hd, hcells]

theorem Rep.setR1 (h : Rep w B D T E sk s) (x : Nat) (h0 : s.r0 ≤ x) (h1 : x ≤ s.t.length) : Rep (w.setCell ⟨D, 3, none⟩ (.int .i64 (x : Int))) B D T E sk { s with r1 := x } :=
  h.set 3 _ (fun C ec => rfl) s.t.length (by simp) s.esc.length (by simp) h1 h.sec5 h0 h.line0 h.line1

theorem Rep.setSec (h : Rep w B D T E sk s) (x : Nat) (h5 : x ≤ 5) : Rep (w.setCell ⟨D, 5, none⟩ (.int .u8 (x : Int))) B D T E sk { s with sec := x } :=
  h.set 5 _ (fun C ec => rfl) s.t.length (by simp) s.esc.length (by simp) h.le1 h5 h.le0 h.line0 h.line1

theorem Rep.setSk (h : Rep w B D T E sk s) (x : Bool) : Rep (w.setCell ⟨D, 6, none⟩ (.bool x)) B D T E x s :=
  h.set 6 _ (fun C ec => rfl) s.t.length (by simp) s.esc.length (by simp) h.le1 h.sec5 h.le0 h.line0 h.line1

theorem Rep.setLine (h : Rep w B D T E sk s) (x : Int) (n0 : -10000 ≤ x) (n1 : x ≤ 10000) : Rep (w.setCell ⟨D, 8, none⟩ (.int .i64 x)) B D T E sk { s with line := x } :=
  h.set 8 _ (fun C ec => rfl) s.t.length (by simp) s.esc.length (by simp) h.le1 h.sec5 h.le0 n0 n1

/-- The decoder stays where only new memory was made. -/
theorem Rep.keep (h : Rep w B D T E sk s) {w' : World} (hk : ∀ k, k < w.heap.size → w'.heap[k]? = w.heap[k]?) : Rep w' B D T E sk s := by
  have hl := h.lt
  have hB3 := h.B3
  have hbD := h.bD
  obtain ⟨C, ec, hC, hC2, hd, h1, ho⟩ := h.dec
  obtain ⟨tc, fr, htx, htt⟩ := h.text
  refine ⟨h.B3, h.tabs.keep (hk 2 (by omega)) (hk 3 (by omega)), h.bD, h.bT, h.DT, h.DE, h.TE, ⟨C, ec, hC, hC2, ?_, h1, ?_⟩, ⟨tc, fr, by rw [hk T hl.2.1]; exact htx, htt⟩, h.le1, h.small, h.sec5, h.le0, h.esc1, h.line0, h.line1⟩
  · unfold IsDec; rw [hk D hl.1]; exact hd
  · rcases ho with ⟨hv, _⟩ | ⟨g, cap, cur, hv, hb, hg, r⟩
    · cases hv
    · cases hv; exact .inr ⟨E, ec, cur, rfl, hb, by rw [hk E hl.2.2.1]; exact hg, r⟩

theorem Rep.below (h : Rep w B D T E sk s) {w' : World} (k : Below w.heap.size w w') : Rep w' B D T E sk s := h.keep k.block

theorem Rep.alloc (h : Rep w B D T E sk s) (o : Obj) : Rep (w.alloc o) B D T E sk s := h.below ((Below.refl _ _).alloc (Nat.le_refl _) o)
theorem Rep.drew (h : Rep w B D T E sk s) : Rep w.drew B D T E sk s := h.below (Below.refl _ _).drew
theorem Rep.drewN (h : Rep w B D T E sk s) (n : Nat) : Rep (w.drewN n) B D T E sk s := h.keep fun _ _ => rfl
end

/-- A slice value that reads as these bytes; it is not nil. -/
def BytesIs (w : World) (v : Value) (l : List UInt8) : Prop :=
  ∃ b o c, v = .slice (some ⟨b, o, none⟩) l.length c ∧ l.length ≤ c ∧ c ≤ maxLen ∧ b < w.heap.size ∧ ∀ i (h : i < l.length), w.cell? ⟨b, o + i, none⟩ = some (.int .u8 ((l[i]'h).toNat : Int))

/-- What a call of a method of the decoder leaves that may turn the buffer of unescaped bytes. -/
def DW (B D T E : Nat) (sk : Bool) (w : World) (n : Nat) (s' : DSt) (R : World → Nat → Value → Prop) (e : Ending) (w' : World) : Prop :=
  ∃ E' v, e = .returned v ∧ R w' E' v ∧ Rep w' B D T E' sk s' ∧ Stw n D E w E' w'

/-- What a call of a method of the decoder leaves: its result, the decoder in a new state. A plain name, so that the walk does not look inside. -/
def DP (B D T E : Nat) (sk : Bool) (w : World) (s' : DSt) (R : World → Value → Prop) (e : Ending) (w' : World) : Prop :=
  ∃ E' v, e = .returned v ∧ R w' v ∧ Rep w' B D T E' sk s' ∧ Stp D E w E' w'

end Go.Proofs.YtejlokdcocacaaaGreatDoor

/- The byte sets: each of the functions that make one hands back a new block of 256 bools that says which bytes are in it. -/
namespace Go.Proofs.YtejlokdcocacaaaGreatDoor
open Go.RowKit Go.Great

/-- 256 bools. -/
def setOf (f : Nat → Bool) : Array Value := ((List.range 256).map fun i => Value.bool (f i)).toArray

theorem setOf_size (f : Nat → Bool) : (setOf f).size = 256 := by simp [setOf]
theorem setOf_get (f : Nat → Bool) (c : Nat) (h : c < 256) : (setOf f)[c]? = some (.bool (f c)) := by simp [setOf, h]
theorem setOf_one (f : Nat → Bool) : (setOf f).all (·.oneCell') = true := by simp [setOf, Value.oneCell']
theorem setOf_congr {f g : Nat → Bool} (h : ∀ c, c < 256 → f c = g c) : setOf f = setOf g := by
  unfold setOf
  congr 1
  apply List.map_congr_left
  intro c hc
  rw [h c (by simpa using hc)]
theorem setOf_set (f : Nat → Bool) (c : Nat) (b : Bool) : (setOf f).setIfInBounds c (.bool b) = setOf (fun i => if i = c then b else f i) := by
  apply Array.ext_getElem?
  intro i
  rw [Array.getElem?_setIfInBounds]
  by_cases h : i < 256
  · rw [setOf_get _ i h, setOf_get _ i h]
    by_cases hc : c = i
    · subst hc; simp [setOf_size, h]
    · simp [hc, Ne.symm hc]
  · have h1 : (setOf f)[i]? = none := Array.getElem?_eq_none (by rw [setOf_size]; omega)
    have h2 : (setOf fun i => if i = c then b else f i)[i]? = none := Array.getElem?_eq_none (by rw [setOf_size]; omega)
    rw [h1, h2]
    by_cases hc : c = i
    · subst hc; simp [setOf_size, h]
    · simp [hc]

/-- Block S holds a set. -/
def SetIs (w : World) (S : Nat) (f : Nat → Bool) : Prop := w.heap[S]? = some (.cells (setOf f) 195 (0, 0))

theorem SetIs.cell {w : World} {S : Nat} {f : Nat → Bool} (h : SetIs w S f) (c : Nat) (hc : c < 256) : w.cell? ⟨S, c, none⟩ = some (.bool (f c)) := by
  rw [cell_of_row w S c _ _ _ h, setOf_get f c hc]
theorem SetIs.free {w : World} {S : Nat} {f : Nat → Bool} (h : SetIs w S f) (c : Nat) : w.frozen? ⟨S, c, none⟩ = false := frozen_of_row w S c _ _ h
theorem SetIs.congr {w : World} {S : Nat} {f g : Nat → Bool} (h : SetIs w S f) (hfg : ∀ c, c < 256 → f c = g c) : SetIs w S g := by
  unfold SetIs; rw [← setOf_congr hfg]; exact h
theorem SetIs.stored {w : World} {S : Nat} {f : Nat → Bool} (h : SetIs w S f) (c : Nat) (b : Bool) : SetIs (w.setCell ⟨S, c, none⟩ (.bool b)) S (fun i => if i = c then b else f i) := by
  unfold SetIs; rw [heap_setCell_same w S c _ _ _ h, setOf_set]
theorem SetIs.lt {w : World} {S : Nat} {f : Nat → Bool} (h : SetIs w S f) : S < w.heap.size := lt_of_block h
theorem SetIs.below {w w' : World} {S B : Nat} {f : Nat → Bool} (h : SetIs w S f) (k : Below B w w') (hB : S < B) : SetIs w' S f := by
  unfold SetIs; rw [k.block S hB]; exact h

/-- What a function that makes a set leaves. -/
def SP (w : World) (f : Nat → Bool) (e : Ending) (w' : World) : Prop :=
  ∃ S, e = .returned (.pointer (some ⟨S, 0, none⟩)) ∧ SetIs w' S f ∧ Below w.heap.size w w' ∧ w.heap.size ≤ S

theorem SP.congr {w : World} {f g : Nat → Bool} (hfg : ∀ c, c < 256 → f c = g c) {e : Ending} {w' : World} (h : SP w f e w') : SP w g e w' := by
  obtain ⟨S, h1, h2, h3, h4⟩ := h
  exact ⟨S, h1, h2.congr hfg, h3, h4⟩

theorem zero195 : Tryz.zeroCells195 = setOf fun _ => false := by kernel_rfl

theorem underlying195 : Tryz.prog.underlying 195 = some (.array 256 4) := by kernel_rfl
theorem size195 : (Tryz.prog.info? 195).map (·.size) = some 256 := by kernel_rfl

set_option maxHeartbeats 400000 in
theorem get_any {w : World} {S : Nat} {f : Nat → Bool} (h : SetIs w S f) (c : UInt8) :
    Calls Tryz.prog 62 #[.pointer (some ⟨S, 0, none⟩), .int .u8 (c.toNat : Int)] w fun e w' => e = .returned (.bool (f c.toNat)) ∧ w' = w := by
  have hl : c.toNat < 256 := c.toNat_lt
  have hc := h.cell c.toNat hl
  clear h
  generalize c.toNat = n at *
  go_enter Tryz.func62, Tryz.ntmps62
  go_wp2
  go_ret
  exact ⟨rfl, rfl⟩

set_option maxHeartbeats 400000 in
theorem set_any {w : World} {S : Nat} {f : Nat → Bool} (h : SetIs w S f) (n : Nat) (hl : n < 256) :
    Calls Tryz.prog 139 #[.pointer (some ⟨S, 0, none⟩), .int .u8 (n : Int)] w fun e w' => e = .returned (.tuple #[]) ∧ w' = w.setCell ⟨S, n, none⟩ (.bool true) := by
  have hc := h.cell n hl
  have hf := h.free n
  clear h
  go_enter Tryz.func139, Tryz.ntmps139
  go_wp2
  go_end0
  exact ⟨rfl, rfl⟩

/-- The bytes of the first k of a string. -/
def inTake (l : List UInt8) (k : Nat) (i : Nat) : Bool := (l.take k).any fun c => c.toNat == i

theorem inTake_succ (l : List UInt8) (k : Nat) (h : k < l.length) (i : Nat) : inTake l (k + 1) i = if i = (l[k]).toNat then true else inTake l k i := by
  unfold inTake
  rw [List.take_succ_eq_append_getElem h, List.any_append]
  by_cases hi : i = (l[k]).toNat
  · simp [hi]
  · have : ((l[k]).toNat == i) = false := by simpa using fun e => hi e.symm
    simp [hi, this]

set_option maxHeartbeats 800000 in
set_option maxRecDepth 100000 in
theorem newByteSet_any (s : ByteArray) (hs : s.size ≤ 1000) (w : World) :
    Calls Tryz.prog 102 #[.string s] w (SP w (inTake s.data.toList s.size)) := by
  go_enter Tryz.func102, Tryz.ntmps102
  go_wp2_with fail
  go_loopw [4] (fun i wr => ∃ k : Nat, k ≤ s.size ∧ i = .int .i64 k ∧ SetIs wr w.heap.size (inTake s.data.toList k) ∧ Below w.heap.size w wr) (fun i _ => s.size - (intOf i).toNat)
  case atStart => exact ⟨0, Nat.zero_le _, rfl, by rw [zero195]; exact heap_alloc_new w _, (Below.refl _ _).alloc (Nat.le_refl _) _⟩
  case round =>
    obtain ⟨k, hk, rfl, hset, hb⟩ := hrel
    by_cases hlt : k < s.size
    · have hn := s[k].toNat_lt
      go_wp2_with (go_at_call 139; refine (set_any hset s[k].toNat hn).mono ?_; rintro e w' ⟨rfl, rfl⟩)
      go_roundw
      case rel =>
        refine ⟨k + 1, by omega, by go_num, ?_, hb.setCell (Nat.le_refl _) _⟩
        refine (hset.stored _ true).congr fun c _ => ?_
        have h2 := inTake_succ s.data.toList k (by simpa using hlt) c
        rw [h2]
        rfl
      case measure => simp [intOf]; omega
    · go_wp2
      go_ret
      obtain rfl : k = s.size := by omega
      exact ⟨_, rfl, hset, hb, Nat.le_refl _⟩

set_option maxRecDepth 100000 in
set_option maxHeartbeats 800000 in
theorem newByteSetRange_any (a b : Nat) (hab : a ≤ b) (hb : b < 200) (w : World) :
    Calls Tryz.prog 140 #[.int .u8 (a : Int), .int .u8 (b : Int)] w (SP w (fun i => decide (a ≤ i) && decide (i ≤ b))) := by
  go_enter Tryz.func140, Tryz.ntmps140
  go_wp2_with fail
  go_loopw [6] (fun i wr => ∃ k : Nat, a ≤ k ∧ k ≤ b + 1 ∧ i = .int .u8 k ∧ SetIs wr w.heap.size (fun i => decide (a ≤ i) && decide (i < k)) ∧ Below w.heap.size w wr) (fun i _ => b + 1 - (intOf i).toNat)
  case atStart =>
    refine ⟨a, Nat.le_refl _, by omega, rfl, ?_, (Below.refl _ _).alloc (Nat.le_refl _) _⟩
    refine SetIs.congr (f := fun _ => false) (by rw [zero195]; exact heap_alloc_new w _) fun c _ => ?_
    by_cases h : a ≤ c <;> simp [h]
  case round =>
    obtain ⟨k, hk0, hk, rfl, hset, hb'⟩ := hrel
    by_cases hlt : k ≤ b
    · go_wp2_with (go_at_call 139; refine (set_any hset k (by omega)).mono ?_; rintro e w' ⟨rfl, rfl⟩)
      go_roundw
      case rel =>
        refine ⟨k + 1, by omega, by omega, by go_num, ?_, hb'.setCell (Nat.le_refl _) _⟩
        refine (hset.stored _ true).congr fun c _ => ?_
        by_cases h1 : c = k
        · subst h1; simp [hk0]
        · have h2 : (c < k + 1) = (c < k) := by simp; omega
          simp [h1, h2]
      case measure => simp [intOf]; omega
    · go_wp2
      go_ret
      obtain rfl : k = b + 1 := by omega
      exact ⟨_, rfl, hset.congr fun c _ => by simp [Nat.lt_succ_iff], hb', Nat.le_refl _⟩

set_option maxRecDepth 100000 in
set_option maxHeartbeats 800000 in
theorem invert_any {w : World} {S : Nat} {f : Nat → Bool} (h : SetIs w S f) :
    Calls Tryz.prog 105 #[.pointer (some ⟨S, 0, none⟩)] w (SP w (fun i => !f i)) := by
  have hst := run_storeCells_new (P := Tryz.prog) w 195 Tryz.zeroCells195 (setOf f) (by rw [setOf_size]; exact size195) (by rw [zero195, setOf_size, setOf_size]) (setOf_one f)
  go_enter Tryz.func105, Tryz.ntmps105
  go_wp2_with (first
    | (refine wpList_load_row rfl 195 (.tmp 6) rfl S rfl 195 _ (0, 0) _ h underlying195 rfl (by rw [setOf_size]; exact size195) ?_)
    | fail)
  go_loopw [4, 8] (fun _ i wr => ∃ k : Nat, k ≤ 256 ∧ i = .int .i64 k ∧ SetIs wr w.heap.size (fun j => if j < k then !f j else f j) ∧ Below w.heap.size w wr) (fun _ i _ => 256 - (intOf i).toNat)
  case atStart => exact ⟨0, by omega, rfl, SetIs.congr (f := f) (by exact heap_alloc_new w _) fun c _ => by simp, (Below.refl _ _).alloc (Nat.le_refl _) _⟩
  case round =>
    obtain ⟨k, hk, rfl, hset, hb⟩ := hrel
    by_cases hlt : k < 256
    · have hc := hset.cell k hlt
      have hf := hset.free k
      have H := hid hset; clear hset
      simp only [Nat.lt_irrefl, if_false] at hc
      go_wp2
      go_roundw
      case rel =>
        refine ⟨k + 1, by omega, by go_num, ?_, hb.setCell (Nat.le_refl _) _⟩
        refine (H.out.stored _ _).congr fun c _ => ?_
        by_cases h1 : c = k
        · subst h1; simp
        · have h2 : (c < k + 1) = (c < k) := by simp; omega
          simp [h1, h2]
      case measure => simp [intOf]; omega
    · go_wp2
      go_ret
      obtain rfl : k = 256 := by omega
      exact ⟨_, rfl, hset.congr fun c hc => by simp [hc], hb, Nat.le_refl _⟩

set_option maxRecDepth 100000 in
set_option maxHeartbeats 800000 in
theorem union_any {w : World} {S S' : Nat} {f g : Nat → Bool} (h : SetIs w S f) (h' : SetIs w S' g) :
    Calls Tryz.prog 103 #[.pointer (some ⟨S, 0, none⟩), .pointer (some ⟨S', 0, none⟩)] w (SP w (fun i => f i || g i)) := by
  have hst := run_storeCells_new (P := Tryz.prog) w 195 Tryz.zeroCells195 (setOf f) (by rw [setOf_size]; exact size195) (by rw [zero195, setOf_size, setOf_size]) (setOf_one f)
  go_enter Tryz.func103, Tryz.ntmps103
  go_wp2_with (first
    | (refine wpList_load_row rfl 195 (.tmp 8) rfl S rfl 195 _ (0, 0) _ h underlying195 rfl (by rw [setOf_size]; exact size195) ?_)
    | fail)
  go_loopw [6, 10] (fun _ i wr => ∃ k : Nat, k ≤ 256 ∧ i = .int .i64 k ∧ SetIs wr w.heap.size (fun j => if j < k then (f j || g j) else f j) ∧ Below w.heap.size w wr) (fun _ i _ => 256 - (intOf i).toNat)
  case atStart => exact ⟨0, by omega, rfl, SetIs.congr (f := f) (by exact heap_alloc_new w _) fun c _ => by simp, (Below.refl _ _).alloc (Nat.le_refl _) _⟩
  case round =>
    obtain ⟨k, hk, rfl, hset, hb⟩ := hrel
    by_cases hlt : k < 256
    · have hc := hset.cell k hlt
      have hf := hset.free k
      have hg := (h'.below hb h'.lt).cell k hlt
      have hfree' : k < 256 := hlt
      have H := hid hset; clear hset
      have HF : ∀ b, f k = b → Hid (f k = b) := fun _ e => e
      have HG : ∀ b, g k = b → Hid (g k = b) := fun _ e => e
      simp only [Nat.lt_irrefl, if_false] at hc
      cases hfk : f k <;> cases hgk : g k
      all_goals
        rw [hfk] at hc
        rw [hgk] at hg
        replace HF := HF _ hfk
        replace HG := HG _ hgk
        clear hfk hgk
        go_wp2
        go_roundw
        case rel =>
          refine ⟨k + 1, by omega, by go_num, ?_, hb.setCell (Nat.le_refl _) _⟩
          refine (H.out.stored _ _).congr fun c _ => ?_
          by_cases h1 : c = k
          · subst h1; simp [HF.out, HG.out]
          · have h2 : (c < k + 1) = (c < k) := by simp; omega
            simp [h1, h2]
        case measure => simp [intOf]; omega
    · go_wp2
      go_ret
      obtain rfl : k = 256 := by omega
      exact ⟨_, rfl, hset.congr fun c hc => by simp [hc], hb, Nat.le_refl _⟩

set_option maxRecDepth 100000 in
set_option maxHeartbeats 800000 in
theorem intersect_any {w : World} {S S' : Nat} {f g : Nat → Bool} (h : SetIs w S f) (h' : SetIs w S' g) :
    Calls Tryz.prog 158 #[.pointer (some ⟨S, 0, none⟩), .pointer (some ⟨S', 0, none⟩)] w (SP w (fun i => f i && g i)) := by
  have hst := run_storeCells_new (P := Tryz.prog) w 195 Tryz.zeroCells195 (setOf f) (by rw [setOf_size]; exact size195) (by rw [zero195, setOf_size, setOf_size]) (setOf_one f)
  go_enter Tryz.func158, Tryz.ntmps158
  go_wp2_with (first
    | (refine wpList_load_row rfl 195 (.tmp 8) rfl S rfl 195 _ (0, 0) _ h underlying195 rfl (by rw [setOf_size]; exact size195) ?_)
    | fail)
  go_loopw [6, 10] (fun _ i wr => ∃ k : Nat, k ≤ 256 ∧ i = .int .i64 k ∧ SetIs wr w.heap.size (fun j => if j < k then (f j && g j) else f j) ∧ Below w.heap.size w wr) (fun _ i _ => 256 - (intOf i).toNat)
  case atStart => exact ⟨0, by omega, rfl, SetIs.congr (f := f) (by exact heap_alloc_new w _) fun c _ => by simp, (Below.refl _ _).alloc (Nat.le_refl _) _⟩
  case round =>
    obtain ⟨k, hk, rfl, hset, hb⟩ := hrel
    by_cases hlt : k < 256
    · have hc := hset.cell k hlt
      have hf := hset.free k
      have hg := (h'.below hb h'.lt).cell k hlt
      have H := hid hset; clear hset
      have HF : ∀ b, f k = b → Hid (f k = b) := fun _ e => e
      have HG : ∀ b, g k = b → Hid (g k = b) := fun _ e => e
      simp only [Nat.lt_irrefl, if_false] at hc
      cases hfk : f k <;> cases hgk : g k
      all_goals
        rw [hfk] at hc
        rw [hgk] at hg
        replace HF := HF _ hfk
        replace HG := HG _ hgk
        clear hfk hgk
        go_wp2
        go_roundw
        case rel =>
          refine ⟨k + 1, by omega, by go_num, ?_, hb.setCell (Nat.le_refl _) _⟩
          refine (H.out.stored _ _).congr fun c _ => ?_
          by_cases h1 : c = k
          · subst h1; simp [HF.out, HG.out]
          · have h2 : (c < k + 1) = (c < k) := by simp; omega
            simp [h1, h2]
        case measure => simp [intOf]; omega
    · go_wp2
      go_ret
      obtain rfl : k = 256 := by omega
      exact ⟨_, rfl, hset.congr fun c hc => by simp [hc], hb, Nat.le_refl _⟩
end Go.Proofs.YtejlokdcocacaaaGreatDoor

/- The decoder's named byte sets: what each function that makes one hands back. Printed by gen_sets.py. -/
namespace Go.Proofs.YtejlokdcocacaaaGreatDoor
open Go.RowKit

theorem SetIs.grow {w w' : World} {S : Nat} {f : Nat → Bool} (h : SetIs w S f) (k : Below w.heap.size w w') : SetIs w' S f := h.below k h.lt

set_option maxHeartbeats 400000 in
theorem without_any {w : World} {S S' : Nat} {f g : Nat → Bool} (h : SetIs w S f) (h' : SetIs w S' g) :
    Calls Tryz.prog 136 #[.pointer (some ⟨S, 0, none⟩), .pointer (some ⟨S', 0, none⟩)] w (SP w (fun i => f i && !g i)) := by
  go_enter Tryz.func136, Tryz.ntmps136
  go_wp2_with fail
  refine (invert_any h').mono ?_; rintro e w1 ⟨S1, rfl, h1, b1, l1⟩
  go_wp2_with fail
  refine (intersect_any (h.grow b1) h1).mono ?_; rintro e w2 ⟨S2, rfl, h2, b2, l2⟩
  go_wp2_with fail
  go_ret
  exact ⟨S2, rfl, h2, b1.trans (b2.mono b1.size), Nat.le_trans b1.size l2⟩

/-- The bytes of this set. -/
def blankP (i : Nat) : Bool := i == 32

/-- The bytes of this set. -/
def whiteP (i : Nat) : Bool := i == 32 || i == 13 || i == 10

/-- The bytes of this set. -/
def nonprintP (i : Nat) : Bool := decide (i < 32) || i == 127

/-- The bytes of this set. -/
def eolP (i : Nat) : Bool := i == 13 || i == 10

/-- The bytes of this set. -/
def tagKeyP (i : Nat) : Bool := !(i == 44 || i == 61 || i == 32 || decide (i < 32) || i == 127)

/-- The bytes of this set. -/
def measP (i : Nat) : Bool := !(i == 44 || i == 32 || decide (i < 32) || i == 127)

/-- The bytes of this set. -/
def tagValP (i : Nat) : Bool := !(i == 44 || i == 61 || i == 32 || decide (i < 32) || i == 127)

/-- The bytes of this set. -/
def fieldKeyP (i : Nat) : Bool := !(i == 44 || i == 61 || i == 32 || decide (i < 32) || i == 127)

/-- The bytes of this set. -/
def strValP (i : Nat) : Bool := !(i == 34)

/-- The bytes of this set. -/
def fieldValP (i : Nat) : Bool := !(i == 44 || i == 32 || i == 13 || i == 10)

/-- The bytes of this set. -/
def timeCP (i : Nat) : Bool := i == 45 || (decide (48 ≤ i) && decide (i ≤ 57))

/-- The bytes of this set. -/
def commentP (i : Nat) : Bool := !(decide (i < 32) || i == 127)

/-- The bytes of this set. -/
def notEolP (i : Nat) : Bool := !(i == 13 || i == 10)

/-- The bytes of this set. -/
def notNlP (i : Nat) : Bool := !(i == 10)

set_option maxRecDepth 100000 in
set_option maxHeartbeats 400000 in
theorem blank_any (w : World) : Calls Tryz.prog 61 #[] w (SP w blankP) := by
  go_enter Tryz.func61, Tryz.ntmps61
  go_wp2_with fail
  refine (newByteSet_any ⟨#[32]⟩ (by decide) _).mono ?_; rintro e w1 ⟨S1, rfl, h1, b1, l1⟩
  go_wp2_with fail
  go_ret
  exact ⟨S1, rfl, h1.congr (by unfold blankP; decide +kernel), b1, l1⟩

set_option maxRecDepth 100000 in
set_option maxHeartbeats 400000 in
theorem white_any (w : World) : Calls Tryz.prog 79 #[] w (SP w whiteP) := by
  go_enter Tryz.func79, Tryz.ntmps79
  go_wp2_with fail
  refine (blank_any _).mono ?_; rintro e w1 ⟨S1, rfl, h1, b1, l1⟩
  go_wp2_with fail
  refine (newByteSet_any ⟨#[13, 10]⟩ (by decide) _).mono ?_; rintro e w2 ⟨S2, rfl, h2, b2, l2⟩
  go_wp2_with fail
  refine (union_any (h1.grow b2) h2).mono ?_; rintro e w3 ⟨S3, rfl, h3, b3, l3⟩
  go_wp2_with fail
  go_ret
  exact ⟨S3, rfl, h3.congr (by unfold whiteP; decide +kernel), ((b1.trans (b2.mono (b1).size)).trans (b3.mono ((b1.trans (b2.mono (b1).size))).size)), Nat.le_trans ((b1.trans (b2.mono (b1).size))).size l3⟩

set_option maxRecDepth 100000 in
set_option maxHeartbeats 400000 in
theorem nonprint_any (w : World) : Calls Tryz.prog 104 #[] w (SP w nonprintP) := by
  go_enter Tryz.func104, Tryz.ntmps104
  go_wp2_with fail
  refine (newByteSetRange_any 0 31 (by decide) (by decide) _).mono ?_; rintro e w1 ⟨S1, rfl, h1, b1, l1⟩
  go_wp2_with fail
  refine (newByteSet_any ⟨#[127]⟩ (by decide) _).mono ?_; rintro e w2 ⟨S2, rfl, h2, b2, l2⟩
  go_wp2_with fail
  refine (union_any (h1.grow b2) h2).mono ?_; rintro e w3 ⟨S3, rfl, h3, b3, l3⟩
  go_wp2_with fail
  go_ret
  exact ⟨S3, rfl, h3.congr (by unfold nonprintP; decide +kernel), ((b1.trans (b2.mono (b1).size)).trans (b3.mono ((b1.trans (b2.mono (b1).size))).size)), Nat.le_trans ((b1.trans (b2.mono (b1).size))).size l3⟩

set_option maxRecDepth 100000 in
set_option maxHeartbeats 400000 in
theorem eol_any (w : World) : Calls Tryz.prog 122 #[] w (SP w eolP) := by
  go_enter Tryz.func122, Tryz.ntmps122
  go_wp2_with fail
  refine (newByteSet_any ⟨#[13, 10]⟩ (by decide) _).mono ?_; rintro e w1 ⟨S1, rfl, h1, b1, l1⟩
  go_wp2_with fail
  go_ret
  exact ⟨S1, rfl, h1.congr (by unfold eolP; decide +kernel), b1, l1⟩

set_option maxRecDepth 100000 in
set_option maxHeartbeats 400000 in
theorem tagKey_any (w : World) : Calls Tryz.prog 65 #[] w (SP w tagKeyP) := by
  go_enter Tryz.func65, Tryz.ntmps65
  go_wp2_with fail
  refine (newByteSet_any ⟨#[44, 61]⟩ (by decide) _).mono ?_; rintro e w1 ⟨S1, rfl, h1, b1, l1⟩
  go_wp2_with fail
  refine (white_any _).mono ?_; rintro e w2 ⟨S2, rfl, h2, b2, l2⟩
  go_wp2_with fail
  refine (union_any (h1.grow b2) h2).mono ?_; rintro e w3 ⟨S3, rfl, h3, b3, l3⟩
  go_wp2_with fail
  refine (nonprint_any _).mono ?_; rintro e w4 ⟨S4, rfl, h4, b4, l4⟩
  go_wp2_with fail
  refine (union_any (h3.grow b4) h4).mono ?_; rintro e w5 ⟨S5, rfl, h5, b5, l5⟩
  go_wp2_with fail
  refine (invert_any h5).mono ?_; rintro e w6 ⟨S6, rfl, h6, b6, l6⟩
  go_wp2_with fail
  go_ret
  exact ⟨S6, rfl, h6.congr (by unfold tagKeyP; decide +kernel), (((((b1.trans (b2.mono (b1).size)).trans (b3.mono ((b1.trans (b2.mono (b1).size))).size)).trans (b4.mono (((b1.trans (b2.mono (b1).size)).trans (b3.mono ((b1.trans (b2.mono (b1).size))).size))).size)).trans (b5.mono ((((b1.trans (b2.mono (b1).size)).trans (b3.mono ((b1.trans (b2.mono (b1).size))).size)).trans (b4.mono (((b1.trans (b2.mono (b1).size)).trans (b3.mono ((b1.trans (b2.mono (b1).size))).size))).size))).size)).trans (b6.mono (((((b1.trans (b2.mono (b1).size)).trans (b3.mono ((b1.trans (b2.mono (b1).size))).size)).trans (b4.mono (((b1.trans (b2.mono (b1).size)).trans (b3.mono ((b1.trans (b2.mono (b1).size))).size))).size)).trans (b5.mono ((((b1.trans (b2.mono (b1).size)).trans (b3.mono ((b1.trans (b2.mono (b1).size))).size)).trans (b4.mono (((b1.trans (b2.mono (b1).size)).trans (b3.mono ((b1.trans (b2.mono (b1).size))).size))).size))).size))).size)), Nat.le_trans (((((b1.trans (b2.mono (b1).size)).trans (b3.mono ((b1.trans (b2.mono (b1).size))).size)).trans (b4.mono (((b1.trans (b2.mono (b1).size)).trans (b3.mono ((b1.trans (b2.mono (b1).size))).size))).size)).trans (b5.mono ((((b1.trans (b2.mono (b1).size)).trans (b3.mono ((b1.trans (b2.mono (b1).size))).size)).trans (b4.mono (((b1.trans (b2.mono (b1).size)).trans (b3.mono ((b1.trans (b2.mono (b1).size))).size))).size))).size))).size l6⟩

set_option maxRecDepth 100000 in
set_option maxHeartbeats 400000 in
theorem meas_any (w : World) : Calls Tryz.prog 55 #[] w (SP w measP) := by
  go_enter Tryz.func55, Tryz.ntmps55
  go_wp2_with fail
  refine (newByteSet_any ⟨#[44, 32]⟩ (by decide) _).mono ?_; rintro e w1 ⟨S1, rfl, h1, b1, l1⟩
  go_wp2_with fail
  refine (nonprint_any _).mono ?_; rintro e w2 ⟨S2, rfl, h2, b2, l2⟩
  go_wp2_with fail
  refine (union_any (h1.grow b2) h2).mono ?_; rintro e w3 ⟨S3, rfl, h3, b3, l3⟩
  go_wp2_with fail
  refine (invert_any h3).mono ?_; rintro e w4 ⟨S4, rfl, h4, b4, l4⟩
  go_wp2_with fail
  go_ret
  exact ⟨S4, rfl, h4.congr (by unfold measP; decide +kernel), (((b1.trans (b2.mono (b1).size)).trans (b3.mono ((b1.trans (b2.mono (b1).size))).size)).trans (b4.mono (((b1.trans (b2.mono (b1).size)).trans (b3.mono ((b1.trans (b2.mono (b1).size))).size))).size)), Nat.le_trans (((b1.trans (b2.mono (b1).size)).trans (b3.mono ((b1.trans (b2.mono (b1).size))).size))).size l4⟩

set_option maxRecDepth 100000 in
set_option maxHeartbeats 400000 in
theorem tagVal_any (w : World) : Calls Tryz.prog 68 #[] w (SP w tagValP) := by
  go_enter Tryz.func68, Tryz.ntmps68
  go_wp2_with fail
  refine (newByteSet_any ⟨#[44, 61]⟩ (by decide) _).mono ?_; rintro e w1 ⟨S1, rfl, h1, b1, l1⟩
  go_wp2_with fail
  refine (white_any _).mono ?_; rintro e w2 ⟨S2, rfl, h2, b2, l2⟩
  go_wp2_with fail
  refine (union_any (h1.grow b2) h2).mono ?_; rintro e w3 ⟨S3, rfl, h3, b3, l3⟩
  go_wp2_with fail
  refine (nonprint_any _).mono ?_; rintro e w4 ⟨S4, rfl, h4, b4, l4⟩
  go_wp2_with fail
  refine (union_any (h3.grow b4) h4).mono ?_; rintro e w5 ⟨S5, rfl, h5, b5, l5⟩
  go_wp2_with fail
  refine (invert_any h5).mono ?_; rintro e w6 ⟨S6, rfl, h6, b6, l6⟩
  go_wp2_with fail
  go_ret
  exact ⟨S6, rfl, h6.congr (by unfold tagValP; decide +kernel), (((((b1.trans (b2.mono (b1).size)).trans (b3.mono ((b1.trans (b2.mono (b1).size))).size)).trans (b4.mono (((b1.trans (b2.mono (b1).size)).trans (b3.mono ((b1.trans (b2.mono (b1).size))).size))).size)).trans (b5.mono ((((b1.trans (b2.mono (b1).size)).trans (b3.mono ((b1.trans (b2.mono (b1).size))).size)).trans (b4.mono (((b1.trans (b2.mono (b1).size)).trans (b3.mono ((b1.trans (b2.mono (b1).size))).size))).size))).size)).trans (b6.mono (((((b1.trans (b2.mono (b1).size)).trans (b3.mono ((b1.trans (b2.mono (b1).size))).size)).trans (b4.mono (((b1.trans (b2.mono (b1).size)).trans (b3.mono ((b1.trans (b2.mono (b1).size))).size))).size)).trans (b5.mono ((((b1.trans (b2.mono (b1).size)).trans (b3.mono ((b1.trans (b2.mono (b1).size))).size)).trans (b4.mono (((b1.trans (b2.mono (b1).size)).trans (b3.mono ((b1.trans (b2.mono (b1).size))).size))).size))).size))).size)), Nat.le_trans (((((b1.trans (b2.mono (b1).size)).trans (b3.mono ((b1.trans (b2.mono (b1).size))).size)).trans (b4.mono (((b1.trans (b2.mono (b1).size)).trans (b3.mono ((b1.trans (b2.mono (b1).size))).size))).size)).trans (b5.mono ((((b1.trans (b2.mono (b1).size)).trans (b3.mono ((b1.trans (b2.mono (b1).size))).size)).trans (b4.mono (((b1.trans (b2.mono (b1).size)).trans (b3.mono ((b1.trans (b2.mono (b1).size))).size))).size))).size))).size l6⟩

set_option maxRecDepth 100000 in
set_option maxHeartbeats 400000 in
theorem fieldKey_any (w : World) : Calls Tryz.prog 74 #[] w (SP w fieldKeyP) := by
  go_enter Tryz.func74, Tryz.ntmps74
  go_wp2_with fail
  refine (tagKey_any _).mono ?_; rintro e w1 ⟨S1, rfl, h1, b1, l1⟩
  go_wp2_with fail
  go_ret
  exact ⟨S1, rfl, h1.congr (by unfold fieldKeyP; decide +kernel), b1, l1⟩

set_option maxRecDepth 100000 in
set_option maxHeartbeats 400000 in
theorem strVal_any (w : World) : Calls Tryz.prog 76 #[] w (SP w strValP) := by
  go_enter Tryz.func76, Tryz.ntmps76
  go_wp2_with fail
  refine (newByteSet_any ⟨#[34]⟩ (by decide) _).mono ?_; rintro e w1 ⟨S1, rfl, h1, b1, l1⟩
  go_wp2_with fail
  refine (invert_any h1).mono ?_; rintro e w2 ⟨S2, rfl, h2, b2, l2⟩
  go_wp2_with fail
  go_ret
  exact ⟨S2, rfl, h2.congr (by unfold strValP; decide +kernel), (b1.trans (b2.mono (b1).size)), Nat.le_trans (b1).size l2⟩

set_option maxRecDepth 100000 in
set_option maxHeartbeats 400000 in
theorem fieldVal_any (w : World) : Calls Tryz.prog 78 #[] w (SP w fieldValP) := by
  go_enter Tryz.func78, Tryz.ntmps78
  go_wp2_with fail
  refine (newByteSet_any ⟨#[44]⟩ (by decide) _).mono ?_; rintro e w1 ⟨S1, rfl, h1, b1, l1⟩
  go_wp2_with fail
  refine (white_any _).mono ?_; rintro e w2 ⟨S2, rfl, h2, b2, l2⟩
  go_wp2_with fail
  refine (union_any (h1.grow b2) h2).mono ?_; rintro e w3 ⟨S3, rfl, h3, b3, l3⟩
  go_wp2_with fail
  refine (invert_any h3).mono ?_; rintro e w4 ⟨S4, rfl, h4, b4, l4⟩
  go_wp2_with fail
  go_ret
  exact ⟨S4, rfl, h4.congr (by unfold fieldValP; decide +kernel), (((b1.trans (b2.mono (b1).size)).trans (b3.mono ((b1.trans (b2.mono (b1).size))).size)).trans (b4.mono (((b1.trans (b2.mono (b1).size)).trans (b3.mono ((b1.trans (b2.mono (b1).size))).size))).size)), Nat.le_trans (((b1.trans (b2.mono (b1).size)).trans (b3.mono ((b1.trans (b2.mono (b1).size))).size))).size l4⟩

set_option maxRecDepth 100000 in
set_option maxHeartbeats 400000 in
theorem timeC_any (w : World) : Calls Tryz.prog 81 #[] w (SP w timeCP) := by
  go_enter Tryz.func81, Tryz.ntmps81
  go_wp2_with fail
  refine (newByteSet_any ⟨#[45, 48, 49, 50, 51, 52, 53, 54, 55, 56, 57]⟩ (by decide) _).mono ?_; rintro e w1 ⟨S1, rfl, h1, b1, l1⟩
  go_wp2_with fail
  go_ret
  exact ⟨S1, rfl, h1.congr (by unfold timeCP; decide +kernel), b1, l1⟩

set_option maxRecDepth 100000 in
set_option maxHeartbeats 400000 in
theorem comment_any (w : World) : Calls Tryz.prog 98 #[] w (SP w commentP) := by
  go_enter Tryz.func98, Tryz.ntmps98
  go_wp2_with fail
  refine (nonprint_any _).mono ?_; rintro e w1 ⟨S1, rfl, h1, b1, l1⟩
  go_wp2_with fail
  refine (invert_any h1).mono ?_; rintro e w2 ⟨S2, rfl, h2, b2, l2⟩
  go_wp2_with fail
  refine (eol_any _).mono ?_; rintro e w3 ⟨S3, rfl, h3, b3, l3⟩
  go_wp2_with fail
  refine (without_any (h2.grow b3) h3).mono ?_; rintro e w4 ⟨S4, rfl, h4, b4, l4⟩
  go_wp2_with fail
  go_ret
  exact ⟨S4, rfl, h4.congr (by unfold commentP; decide +kernel), (((b1.trans (b2.mono (b1).size)).trans (b3.mono ((b1.trans (b2.mono (b1).size))).size)).trans (b4.mono (((b1.trans (b2.mono (b1).size)).trans (b3.mono ((b1.trans (b2.mono (b1).size))).size))).size)), Nat.le_trans (((b1.trans (b2.mono (b1).size)).trans (b3.mono ((b1.trans (b2.mono (b1).size))).size))).size l4⟩

set_option maxRecDepth 100000 in
set_option maxHeartbeats 400000 in
theorem notEol_any (w : World) : Calls Tryz.prog 82 #[] w (SP w notEolP) := by
  go_enter Tryz.func82, Tryz.ntmps82
  go_wp2_with fail
  refine (eol_any _).mono ?_; rintro e w1 ⟨S1, rfl, h1, b1, l1⟩
  go_wp2_with fail
  refine (invert_any h1).mono ?_; rintro e w2 ⟨S2, rfl, h2, b2, l2⟩
  go_wp2_with fail
  go_ret
  exact ⟨S2, rfl, h2.congr (by unfold notEolP; decide +kernel), (b1.trans (b2.mono (b1).size)), Nat.le_trans (b1).size l2⟩

set_option maxRecDepth 100000 in
set_option maxHeartbeats 400000 in
theorem notNl_any (w : World) : Calls Tryz.prog 157 #[] w (SP w notNlP) := by
  go_enter Tryz.func157, Tryz.ntmps157
  go_wp2_with fail
  refine (newByteSet_any ⟨#[10]⟩ (by decide) _).mono ?_; rintro e w1 ⟨S1, rfl, h1, b1, l1⟩
  go_wp2_with fail
  refine (invert_any h1).mono ?_; rintro e w2 ⟨S2, rfl, h2, b2, l2⟩
  go_wp2_with fail
  go_ret
  exact ⟨S2, rfl, h2.congr (by unfold notNlP; decide +kernel), (b1.trans (b2.mono (b1).size)), Nat.le_trans (b1).size l2⟩

end Go.Proofs.YtejlokdcocacaaaGreatDoor
