/- The byte sets: each of the functions that make one hands back a new block of 256 bools that says which bytes are in it. -/
import Derived.Test.YtejlokdcocacaaaGreatDoorProg
import Derived.Test.YtejlokdcocacaaaGreatDoorBase
import Derived.WalkLawsBesides
import Derived.Deep.WholeRow
import Derived.Deep.QuietTactic
import Derived.BigQuiet
import Derived.Great.Walk
namespace Go.Proofs.YtejlokdcocacaaaGreatDoor
open Go.RowKit Go.Great

/-- 256 bools. -/
def setOf (f : Nat → Bool) : Array Value := ((List.range 256).map fun i => Value.bool (f i)).toArray

theorem setOf_size (f : Nat → Bool) : (setOf f).size = 256 := by simp [setOf]
theorem setOf_get (f : Nat → Bool) (c : Nat) (h : c < 256) : (setOf f)[c]? = some (.bool (f c)) := by simp [setOf, h]
theorem setOf_one (f : Nat → Bool) : (setOf f).all (·.oneCell') = true := by simp [setOf, Value.oneCell']
theorem setOf_congr {f g : Nat → Bool} (h : ∀ c, c < 256 → f c = g c) : setOf f = setOf g := by
  unfold setOf
  congr 1
  apply List.map_congr_left
  intro c hc
  rw [h c (by simpa using hc)]
theorem setOf_set (f : Nat → Bool) (c : Nat) (b : Bool) : (setOf f).setIfInBounds c (.bool b) = setOf (fun i => if i = c then b else f i) := by
  apply Array.ext_getElem?
  intro i
  rw [Array.getElem?_setIfInBounds]
  by_cases h : i < 256
  · rw [setOf_get _ i h, setOf_get _ i h]
    by_cases hc : c = i
    · subst hc; simp [setOf_size, h]
    · simp [hc, Ne.symm hc]
  · have h1 : (setOf f)[i]? = none := Array.getElem?_eq_none (by rw [setOf_size]; omega)
    have h2 : (setOf fun i => if i = c then b else f i)[i]? = none := Array.getElem?_eq_none (by rw [setOf_size]; omega)
    rw [h1, h2]
    by_cases hc : c = i
    · subst hc; simp [setOf_size, h]
    · simp [hc]

/-- Block S holds a set. -/
def SetIs (w : World) (S : Nat) (f : Nat → Bool) : Prop := w.heap[S]? = some (.cells (setOf f) 195 (0, 0))

theorem SetIs.cell {w : World} {S : Nat} {f : Nat → Bool} (h : SetIs w S f) (c : Nat) (hc : c < 256) : w.cell? ⟨S, c, none⟩ = some (.bool (f c)) := by
  rw [cell_of_row w S c _ _ _ h, setOf_get f c hc]
theorem SetIs.free {w : World} {S : Nat} {f : Nat → Bool} (h : SetIs w S f) (c : Nat) : w.frozen? ⟨S, c, none⟩ = false := frozen_of_row w S c _ _ h
theorem SetIs.congr {w : World} {S : Nat} {f g : Nat → Bool} (h : SetIs w S f) (hfg : ∀ c, c < 256 → f c = g c) : SetIs w S g := by
  unfold SetIs; rw [← setOf_congr hfg]; exact h
theorem SetIs.stored {w : World} {S : Nat} {f : Nat → Bool} (h : SetIs w S f) (c : Nat) (b : Bool) : SetIs (w.setCell ⟨S, c, none⟩ (.bool b)) S (fun i => if i = c then b else f i) := by
  unfold SetIs; rw [heap_setCell_same w S c _ _ _ h, setOf_set]
theorem SetIs.lt {w : World} {S : Nat} {f : Nat → Bool} (h : SetIs w S f) : S < w.heap.size := lt_of_block h
theorem SetIs.below {w w' : World} {S B : Nat} {f : Nat → Bool} (h : SetIs w S f) (k : Below B w w') (hB : S < B) : SetIs w' S f := by
  unfold SetIs; rw [k.block S hB]; exact h

/-- What a function that makes a set leaves. -/
def SP (w : World) (f : Nat → Bool) (e : Ending) (w' : World) : Prop :=
  ∃ S, e = .returned (.pointer (some ⟨S, 0, none⟩)) ∧ SetIs w' S f ∧ Below w.heap.size w w' ∧ w.heap.size ≤ S

theorem SP.congr {w : World} {f g : Nat → Bool} (hfg : ∀ c, c < 256 → f c = g c) {e : Ending} {w' : World} (h : SP w f e w') : SP w g e w' := by
  obtain ⟨S, h1, h2, h3, h4⟩ := h
  exact ⟨S, h1, h2.congr hfg, h3, h4⟩

theorem zero195 : Tryz.zeroCells195 = setOf fun _ => false := by kernel_rfl

theorem underlying195 : Tryz.prog.underlying 195 = some (.array 256 4) := by kernel_rfl
theorem size195 : (Tryz.prog.info? 195).map (·.size) = some 256 := by kernel_rfl

set_option maxHeartbeats 400000 in
theorem get_any {w : World} {S : Nat} {f : Nat → Bool} (h : SetIs w S f) (c : UInt8) :
    Calls Tryz.prog 62 #[.pointer (some ⟨S, 0, none⟩), .int .u8 (c.toNat : Int)] w fun e w' => e = .returned (.bool (f c.toNat)) ∧ w' = w := by
  have hl : c.toNat < 256 := c.toNat_lt
  have hc := h.cell c.toNat hl
  clear h
  generalize c.toNat = n at *
  go_enter Tryz.func62, Tryz.ntmps62
  go_wp2
  go_ret
  exact ⟨rfl, rfl⟩

set_option maxHeartbeats 400000 in
theorem set_any {w : World} {S : Nat} {f : Nat → Bool} (h : SetIs w S f) (n : Nat) (hl : n < 256) :
    Calls Tryz.prog 139 #[.pointer (some ⟨S, 0, none⟩), .int .u8 (n : Int)] w fun e w' => e = .returned (.tuple #[]) ∧ w' = w.setCell ⟨S, n, none⟩ (.bool true) := by
  have hc := h.cell n hl
  have hf := h.free n
  clear h
  go_enter Tryz.func139, Tryz.ntmps139
  go_wp2
  go_end0
  exact ⟨rfl, rfl⟩

/-- The bytes of the first k of a string. -/
def inTake (l : List UInt8) (k : Nat) (i : Nat) : Bool := (l.take k).any fun c => c.toNat == i

theorem inTake_succ (l : List UInt8) (k : Nat) (h : k < l.length) (i : Nat) : inTake l (k + 1) i = if i = (l[k]).toNat then true else inTake l k i := by
  unfold inTake
  rw [List.take_succ_eq_append_getElem h, List.any_append]
  by_cases hi : i = (l[k]).toNat
  · simp [hi]
  · have : ((l[k]).toNat == i) = false := by simpa using fun e => hi e.symm
    simp [hi, this]

set_option maxHeartbeats 800000 in
set_option maxRecDepth 100000 in
theorem newByteSet_any (s : ByteArray) (hs : s.size ≤ 1000) (w : World) :
    Calls Tryz.prog 102 #[.string s] w (SP w (inTake s.data.toList s.size)) := by
  go_enter Tryz.func102, Tryz.ntmps102
  go_wp2_with fail
  go_loopw [4] (fun i wr => ∃ k : Nat, k ≤ s.size ∧ i = .int .i64 k ∧ SetIs wr w.heap.size (inTake s.data.toList k) ∧ Below w.heap.size w wr) (fun i _ => s.size - (intOf i).toNat)
  case atStart => exact ⟨0, Nat.zero_le _, rfl, by rw [zero195]; exact heap_alloc_new w _, (Below.refl _ _).alloc (Nat.le_refl _) _⟩
  case round =>
    obtain ⟨k, hk, rfl, hset, hb⟩ := hrel
    by_cases hlt : k < s.size
    · have hn := s[k].toNat_lt
      go_wp2_with (go_at_call 139; refine (set_any hset s[k].toNat hn).mono ?_; rintro e w' ⟨rfl, rfl⟩)
      go_roundw
      case rel =>
        refine ⟨k + 1, by omega, by go_num, ?_, hb.setCell (Nat.le_refl _) _⟩
        refine (hset.stored _ true).congr fun c _ => ?_
        have h2 := inTake_succ s.data.toList k (by simpa using hlt) c
        rw [h2]
        rfl
      case measure => simp [intOf]; omega
    · go_wp2
      go_ret
      obtain rfl : k = s.size := by omega
      exact ⟨_, rfl, hset, hb, Nat.le_refl _⟩

set_option maxRecDepth 100000 in
set_option maxHeartbeats 800000 in
theorem newByteSetRange_any (a b : Nat) (hab : a ≤ b) (hb : b < 200) (w : World) :
    Calls Tryz.prog 140 #[.int .u8 (a : Int), .int .u8 (b : Int)] w (SP w (fun i => decide (a ≤ i) && decide (i ≤ b))) := by
  go_enter Tryz.func140, Tryz.ntmps140
  go_wp2_with fail
  go_loopw [6] (fun i wr => ∃ k : Nat, a ≤ k ∧ k ≤ b + 1 ∧ i = .int .u8 k ∧ SetIs wr w.heap.size (fun i => decide (a ≤ i) && decide (i < k)) ∧ Below w.heap.size w wr) (fun i _ => b + 1 - (intOf i).toNat)
  case atStart =>
    refine ⟨a, Nat.le_refl _, by omega, rfl, ?_, (Below.refl _ _).alloc (Nat.le_refl _) _⟩
    refine SetIs.congr (f := fun _ => false) (by rw [zero195]; exact heap_alloc_new w _) fun c _ => ?_
    by_cases h : a ≤ c <;> simp [h]
  case round =>
    obtain ⟨k, hk0, hk, rfl, hset, hb'⟩ := hrel
    by_cases hlt : k ≤ b
    · go_wp2_with (go_at_call 139; refine (set_any hset k (by omega)).mono ?_; rintro e w' ⟨rfl, rfl⟩)
      go_roundw
      case rel =>
        refine ⟨k + 1, by omega, by omega, by go_num, ?_, hb'.setCell (Nat.le_refl _) _⟩
        refine (hset.stored _ true).congr fun c _ => ?_
        by_cases h1 : c = k
        · subst h1; simp [hk0]
        · have h2 : (c < k + 1) = (c < k) := by simp; omega
          simp [h1, h2]
      case measure => simp [intOf]; omega
    · go_wp2
      go_ret
      obtain rfl : k = b + 1 := by omega
      exact ⟨_, rfl, hset.congr fun c _ => by simp [Nat.lt_succ_iff], hb', Nat.le_refl _⟩

set_option maxRecDepth 100000 in
set_option maxHeartbeats 800000 in
theorem invert_any {w : World} {S : Nat} {f : Nat → Bool} (h : SetIs w S f) :
    Calls Tryz.prog 105 #[.pointer (some ⟨S, 0, none⟩)] w (SP w (fun i => !f i)) := by
  have hst := run_storeCells_new (P := Tryz.prog) w 195 Tryz.zeroCells195 (setOf f) (by rw [setOf_size]; exact size195) (by rw [zero195, setOf_size, setOf_size]) (setOf_one f)
  go_enter Tryz.func105, Tryz.ntmps105
  go_wp2_with (first
    | (refine wpList_load_row rfl 195 (.tmp 6) rfl S rfl 195 _ (0, 0) _ h underlying195 rfl (by rw [setOf_size]; exact size195) ?_)
    | fail)
  go_loopw [4, 8] (fun _ i wr => ∃ k : Nat, k ≤ 256 ∧ i = .int .i64 k ∧ SetIs wr w.heap.size (fun j => if j < k then !f j else f j) ∧ Below w.heap.size w wr) (fun _ i _ => 256 - (intOf i).toNat)
  case atStart => exact ⟨0, by omega, rfl, SetIs.congr (f := f) (by exact heap_alloc_new w _) fun c _ => by simp, (Below.refl _ _).alloc (Nat.le_refl _) _⟩
  case round =>
    obtain ⟨k, hk, rfl, hset, hb⟩ := hrel
    by_cases hlt : k < 256
    · have hc := hset.cell k hlt
      have hf := hset.free k
      have H := hid hset; clear hset
      simp only [Nat.lt_irrefl, if_false] at hc
      go_wp2
      go_roundw
      case rel =>
        refine ⟨k + 1, by omega, by go_num, ?_, hb.setCell (Nat.le_refl _) _⟩
        refine (H.out.stored _ _).congr fun c _ => ?_
        by_cases h1 : c = k
        · subst h1; simp
        · have h2 : (c < k + 1) = (c < k) := by simp; omega
          simp [h1, h2]
      case measure => simp [intOf]; omega
    · go_wp2
      go_ret
      obtain rfl : k = 256 := by omega
      exact ⟨_, rfl, hset.congr fun c hc => by simp [hc], hb, Nat.le_refl _⟩

set_option maxRecDepth 100000 in
set_option maxHeartbeats 800000 in
theorem union_any {w : World} {S S' : Nat} {f g : Nat → Bool} (h : SetIs w S f) (h' : SetIs w S' g) :
    Calls Tryz.prog 103 #[.pointer (some ⟨S, 0, none⟩), .pointer (some ⟨S', 0, none⟩)] w (SP w (fun i => f i || g i)) := by
  have hst := run_storeCells_new (P := Tryz.prog) w 195 Tryz.zeroCells195 (setOf f) (by rw [setOf_size]; exact size195) (by rw [zero195, setOf_size, setOf_size]) (setOf_one f)
  go_enter Tryz.func103, Tryz.ntmps103
  go_wp2_with (first
    | (refine wpList_load_row rfl 195 (.tmp 8) rfl S rfl 195 _ (0, 0) _ h underlying195 rfl (by rw [setOf_size]; exact size195) ?_)
    | fail)
  go_loopw [6, 10] (fun _ i wr => ∃ k : Nat, k ≤ 256 ∧ i = .int .i64 k ∧ SetIs wr w.heap.size (fun j => if j < k then (f j || g j) else f j) ∧ Below w.heap.size w wr) (fun _ i _ => 256 - (intOf i).toNat)
  case atStart => exact ⟨0, by omega, rfl, SetIs.congr (f := f) (by exact heap_alloc_new w _) fun c _ => by simp, (Below.refl _ _).alloc (Nat.le_refl _) _⟩
  case round =>
    obtain ⟨k, hk, rfl, hset, hb⟩ := hrel
    by_cases hlt : k < 256
    · have hc := hset.cell k hlt
      have hf := hset.free k
      have hg := (h'.below hb h'.lt).cell k hlt
      have hfree' : k < 256 := hlt
      have H := hid hset; clear hset
      have HF : ∀ b, f k = b → Hid (f k = b) := fun _ e => e
      have HG : ∀ b, g k = b → Hid (g k = b) := fun _ e => e
      simp only [Nat.lt_irrefl, if_false] at hc
      cases hfk : f k <;> cases hgk : g k
      all_goals
        rw [hfk] at hc
        rw [hgk] at hg
        replace HF := HF _ hfk
        replace HG := HG _ hgk
        clear hfk hgk
        go_wp2
        go_roundw
        case rel =>
          refine ⟨k + 1, by omega, by go_num, ?_, hb.setCell (Nat.le_refl _) _⟩
          refine (H.out.stored _ _).congr fun c _ => ?_
          by_cases h1 : c = k
          · subst h1; simp [HF.out, HG.out]
          · have h2 : (c < k + 1) = (c < k) := by simp; omega
            simp [h1, h2]
        case measure => simp [intOf]; omega
    · go_wp2
      go_ret
      obtain rfl : k = 256 := by omega
      exact ⟨_, rfl, hset.congr fun c hc => by simp [hc], hb, Nat.le_refl _⟩

set_option maxRecDepth 100000 in
set_option maxHeartbeats 800000 in
theorem intersect_any {w : World} {S S' : Nat} {f g : Nat → Bool} (h : SetIs w S f) (h' : SetIs w S' g) :
    Calls Tryz.prog 158 #[.pointer (some ⟨S, 0, none⟩), .pointer (some ⟨S', 0, none⟩)] w (SP w (fun i => f i && g i)) := by
  have hst := run_storeCells_new (P := Tryz.prog) w 195 Tryz.zeroCells195 (setOf f) (by rw [setOf_size]; exact size195) (by rw [zero195, setOf_size, setOf_size]) (setOf_one f)
  go_enter Tryz.func158, Tryz.ntmps158
  go_wp2_with (first
    | (refine wpList_load_row rfl 195 (.tmp 8) rfl S rfl 195 _ (0, 0) _ h underlying195 rfl (by rw [setOf_size]; exact size195) ?_)
    | fail)
  go_loopw [6, 10] (fun _ i wr => ∃ k : Nat, k ≤ 256 ∧ i = .int .i64 k ∧ SetIs wr w.heap.size (fun j => if j < k then (f j && g j) else f j) ∧ Below w.heap.size w wr) (fun _ i _ => 256 - (intOf i).toNat)
  case atStart => exact ⟨0, by omega, rfl, SetIs.congr (f := f) (by exact heap_alloc_new w _) fun c _ => by simp, (Below.refl _ _).alloc (Nat.le_refl _) _⟩
  case round =>
    obtain ⟨k, hk, rfl, hset, hb⟩ := hrel
    by_cases hlt : k < 256
    · have hc := hset.cell k hlt
      have hf := hset.free k
      have hg := (h'.below hb h'.lt).cell k hlt
      have H := hid hset; clear hset
      have HF : ∀ b, f k = b → Hid (f k = b) := fun _ e => e
      have HG : ∀ b, g k = b → Hid (g k = b) := fun _ e => e
      simp only [Nat.lt_irrefl, if_false] at hc
      cases hfk : f k <;> cases hgk : g k
      all_goals
        rw [hfk] at hc
        rw [hgk] at hg
        replace HF := HF _ hfk
        replace HG := HG _ hgk
        clear hfk hgk
        go_wp2
        go_roundw
        case rel =>
          refine ⟨k + 1, by omega, by go_num, ?_, hb.setCell (Nat.le_refl _) _⟩
          refine (H.out.stored _ _).congr fun c _ => ?_
          by_cases h1 : c = k
          · subst h1; simp [HF.out, HG.out]
          · have h2 : (c < k + 1) = (c < k) := by simp; omega
            simp [h1, h2]
        case measure => simp [intOf]; omega
    · go_wp2
      go_ret
      obtain rfl : k = 256 := by omega
      exact ⟨_, rfl, hset.congr fun c hc => by simp [hc], hb, Nat.le_refl _⟩
end Go.Proofs.YtejlokdcocacaaaGreatDoor
