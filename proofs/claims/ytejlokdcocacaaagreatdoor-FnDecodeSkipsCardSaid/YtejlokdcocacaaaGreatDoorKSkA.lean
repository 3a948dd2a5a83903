/- The law FnDecodeSkips: what its calls are, and what they tell. -/
import Derived.Test.YtejlokdcocacaaaGreatDoorKAllR
import Derived.Test.YtejlokdcocacaaaGreatDoorKScr
import Derived.Test.YtejlokdcocacaaaGreatDoorKTlf
import Derived.Test.YtejlokdcocacaaaGreatDoorKSpecT
namespace Go.Proofs.YtejlokdcocacaaaGreatDoor
open Go.RowKit

theorem rowE_cells {w : World} {B n s : Nat} {e : TypeId} {v : Value} {xs : List Value} (h : w.ownsRow B e s v n xs) (hn : 0 < n) : ∃ g cap, v = .slice (some ⟨g, 0, none⟩) n cap ∧ g < w.heap.size ∧ B ≤ g ∧ (∀ j u, xs[j]? = some u → w.cell? ⟨g, j, none⟩ = some u) ∧ n ≤ cap ∧ cap ≤ maxLen := by
  obtain ⟨hlen, hcase⟩ := h
  rcases hcase with ⟨_, h⟩ | ⟨g, cap, cur, rfl, hb, hh, h4, hm, hcs, htk⟩
  · omega
  · refine ⟨g, cap, rfl, lt_of_block hh, by omega, fun j u hj => ?_, h4, hm⟩
    rw [cell_of_row w g j _ _ _ hh]
    rw [← htk, List.getElem?_take] at hj
    split at hj
    · simpa using hj
    · cases hj

/-- The calls: Next, then the one asked. -/
def askL (op : Int) : Nat → List Value
  | 0 => []
  | k + 1 => askL op k ++ [.int .i64 0, .int .i64 0, .int .i64 0, .int .i64 op, .int .i64 0, .int .i64 0]
def askF (op : Int) (i : Nat) : Int × Int × Int := (if i % 2 = 0 then 0 else op, 0, 0)

theorem askL_len (op : Int) : ∀ n, (askL op n).length = 6 * n
  | 0 => rfl
  | n + 1 => by rw [askL, List.length_append, askL_len op n]; simp; omega
theorem askL_get (op : Int) : ∀ n i, i < 2 * n → (askL op n)[i * 3]? = some (.int .i64 (askF op i).1) ∧ (askL op n)[i * 3 + 1]? = some (.int .i64 0) ∧ (askL op n)[i * 3 + 2]? = some (.int .i64 0)
  | 0, i, h => absurd h (by omega)
  | n + 1, i, h => by
    have hl := askL_len op n
    by_cases hi : i < 2 * n
    · have := askL_get op n i hi
      rw [askL, List.getElem?_append_left (by omega), List.getElem?_append_left (by omega), List.getElem?_append_left (by omega)]
      exact this
    · rw [askL, List.getElem?_append_right (by omega), List.getElem?_append_right (by omega), List.getElem?_append_right (by omega), hl]
      have : i = 2 * n ∨ i = 2 * n + 1 := by omega
      unfold askF
      rcases this with rfl | rfl
      · rw [show 2 * n * 3 - 6 * n = 0 by omega, show 2 * n * 3 + 1 - 6 * n = 1 by omega, show 2 * n * 3 + 2 - 6 * n = 2 by omega, if_pos (by omega)]
        exact ⟨rfl, rfl, rfl⟩
      · rw [show (2 * n + 1) * 3 - 6 * n = 3 by omega, show (2 * n + 1) * 3 + 1 - 6 * n = 4 by omega, show (2 * n + 1) * 3 + 2 - 6 * n = 5 by omega, if_neg (by omega)]
        exact ⟨rfl, rfl, rfl⟩

theorem asksAt_of {w : World} {B n : Nat} {v : Value} {op : Int} (h : w.ownsRow B 23 3 v (2 * n) (askL op n)) : ∃ p b c, v = .slice p (2 * n) c ∧ (0 < 2 * n → p = some ⟨b, 0, none⟩) ∧ (0 < 2 * n → AsksAt w b (2 * n) (askF op)) := by
  by_cases hn : 0 < 2 * n
  · obtain ⟨g, cap, hv, hl, _, hc, _⟩ := rowE_cells h hn
    refine ⟨_, g, cap, hv, fun _ => rfl, fun _ => ⟨hl, fun i hi => ?_⟩⟩
    obtain ⟨h1, h2, h3⟩ := askL_get op n i hi
    exact ⟨hc _ _ h1, hc _ _ h2, hc _ _ h3⟩
  · obtain ⟨p, c, hv⟩ := rowE_slice h
    exact ⟨p, 0, c, hv, fun h => absurd h hn, fun h => absurd h hn⟩

theorem flatC_len {cs : Nat → Array Value} : ∀ (n : Nat) (_ : ∀ i, i < n → (cs i).size = 15), (flatC cs n).length = n * 15
  | 0, _ => rfl
  | n + 1, h => by
    rw [flatC, List.length_append, flatC_len n (fun i hi => h i (by omega)), Array.length_toList, h n (by omega)]
    omega
theorem flatC_get {cs : Nat → Array Value} : ∀ (n : Nat) (_ : ∀ i, i < n → (cs i).size = 15) (i j : Nat) (_ : i < n) (_ : j < 15), (flatC cs n)[i * 15 + j]? = (cs i)[j]?
  | 0, _, i, j, hi, _ => absurd hi (by omega)
  | n + 1, h, i, j, hi, hj => by
    have hl := flatC_len n (fun i hi => h i (by omega))
    by_cases hin : i < n
    · rw [flatC, List.getElem?_append_left (by omega)]
      exact flatC_get n (fun i hi => h i (by omega)) i j hin hj
    · obtain rfl : i = n := by omega
      rw [flatC, List.getElem?_append_right (by omega), hl, show i * 15 + j - i * 15 = j by omega, Array.getElem?_toList]

/-- The course where times alone are asked. -/
noncomputable def tms (t : List UInt8) (i : Nat) : MSt := if i % 2 = 0 then msAt t (i / 2) else mNx (msAt t (i / 2))
noncomputable def tcs (t : List UInt8) (i : Nat) : Array Value := if i % 2 = 0 then toldC ((mNx (msAt t (i / 2))).has 1) ⟨#[]⟩ ⟨#[]⟩ 0 0 false 0 0 false else toldT (mEntry (mNx (msAt t (i / 2)))).2
/-- Where first fields alone are asked. -/
noncomputable def fsAt (t : List UInt8) : Nat → MSt
  | 0 => mStart t
  | i + 1 => (mFirst (mNx (fsAt t i))).1
noncomputable def fms (t : List UInt8) (i : Nat) : MSt := if i % 2 = 0 then fsAt t (i / 2) else mNx (fsAt t (i / 2))
noncomputable def fcs (t : List UInt8) (i : Nat) : Array Value := if i % 2 = 0 then toldC ((mNx (msAt t (i / 2))).has 1) ⟨#[]⟩ ⟨#[]⟩ 0 0 false 0 0 false else toldF (mFirst (mNx (msAt t (i / 2)))).2

theorem nx_sec (m : MSt) : (mNx m).sec = 0 := rfl
theorem fs_nx (t : List UInt8) : ∀ k, mNx (fsAt t k) = mNx (msAt t k)
  | 0 => rfl
  | k + 1 => by
    show mNx (mFirst (mNx (fsAt t k))).1 = mNx (mEntry (mNx (msAt t k))).1
    rw [fs_nx t k]
    exact next_first _ (nx_sec _)

theorem told_good (sm : Bool) (a b : ByteArray) (k n : Int) (fi : Bool) (fl fc : Int) (fr : Bool) : (toldC sm a b k n fi fl fc fr).size = 15 ∧ ∀ u ∈ (toldC sm a b k n fi fl fc fr).toList, u.oneCell' = true := by
  refine ⟨rfl, fun u hu => ?_⟩
  have := Array.all_eq_true_iff_forall_mem.1 (toldC_one sm a b k n fi fl fc fr) u (by simpa using hu)
  exact this
theorem toldT_good (r : TimeR) : (toldT r).size = 15 ∧ ∀ u ∈ (toldT r).toList, u.oneCell' = true := by
  cases r <;> exact told_good ..
theorem toldF_good (r : FieldR) : (toldF r).size = 15 ∧ ∀ u ∈ (toldF r).toList, u.oneCell' = true := by
  cases r <;> exact told_good ..
theorem tcs_good (t : List UInt8) (i : Nat) : (tcs t i).size = 15 ∧ ∀ u ∈ (tcs t i).toList, u.oneCell' = true := by
  unfold tcs
  split
  · exact told_good ..
  · exact toldT_good _
theorem fcs_good (t : List UInt8) (i : Nat) : (fcs t i).size = 15 ∧ ∀ u ∈ (fcs t i).toList, u.oneCell' = true := by
  unfold fcs
  split
  · exact told_good ..
  · exact toldF_good _

section
variable {w : World} {B : Nat}
theorem script_time (s : ByteArray) (hs : s.size ≤ 900) (hT : Tabs w) (hB3 : 3 < B) (hB : B ≤ w.heap.size) (hG : Glob B w) (n : Nat) (hn : n ≤ 90) (p : Option Addr) (b c : Nat) (hp : 0 < 2 * n → p = some ⟨b, 0, none⟩) (hask : 0 < 2 * n → AsksAt w b (2 * n) (askF 5)) :
    Calls Tryz.prog 5 #[.string s, .slice none 0 0, .bool false, .slice p (2 * n : Nat) c] w fun e w' => ∃ lv, e = .returned (.tuple #[lv, .bool false, .bool true]) ∧ w'.ownsRow (w.heap.size + 3) 39 15 lv (2 * n) (flatC (tcs s.data.toList) (2 * n)) ∧ Below w.heap.size w w' :=
  script_gen s hs hT hB3 hB hG (askF 5) (2 * n) (by omega) p b c hp hask (tms s.data.toList) (tcs s.data.toList) rfl
    (fun D T E w1 i hi hg hd => by
      by_cases h2 : i % 2 = 0
      · have e1 : tms s.data.toList i = msAt s.data.toList (i / 2) := by unfold tms; rw [if_pos h2]
        have e2 : tms s.data.toList (i + 1) = mNx (msAt s.data.toList (i / 2)) := by unfold tms; rw [if_neg (by omega), show (i + 1) / 2 = i / 2 by omega]
        have e3 : tcs s.data.toList i = toldC ((mNx (msAt s.data.toList (i / 2))).has 1) ⟨#[]⟩ ⟨#[]⟩ 0 0 false 0 0 false := by unfold tcs; rw [if_pos h2]
        have e4 : askF 5 i = (0, 0, 0) := by unfold askF; rw [if_pos h2]
        rw [e4, e3, e2]
        rw [e1] at hd
        exact told_next hd 0 0
      · have e1 : tms s.data.toList i = mNx (msAt s.data.toList (i / 2)) := by unfold tms; rw [if_neg h2]
        have e2 : tms s.data.toList (i + 1) = (mEntry (mNx (msAt s.data.toList (i / 2)))).1 := by unfold tms; rw [if_pos (by omega), show (i + 1) / 2 = i / 2 + 1 by omega]; rfl
        have e3 : tcs s.data.toList i = toldT (mEntry (mNx (msAt s.data.toList (i / 2)))).2 := by unfold tcs; rw [if_neg h2]
        have e4 : askF 5 i = (5, 0, 0) := by unfold askF; rw [if_neg h2]
        rw [e4, e3, e2]
        rw [e1] at hd
        have h := told_timeB hd hg 0 0
        rw [time_entry _ (nx_sec _)] at h
        exact h)
    (fun i _ => tcs_good _ i)
theorem script_field (s : ByteArray) (hs : s.size ≤ 900) (hT : Tabs w) (hB3 : 3 < B) (hB : B ≤ w.heap.size) (hG : Glob B w) (n : Nat) (hn : n ≤ 90) (p : Option Addr) (b c : Nat) (hp : 0 < 2 * n → p = some ⟨b, 0, none⟩) (hask : 0 < 2 * n → AsksAt w b (2 * n) (askF 4)) :
    Calls Tryz.prog 5 #[.string s, .slice none 0 0, .bool false, .slice p (2 * n : Nat) c] w fun e w' => ∃ lv, e = .returned (.tuple #[lv, .bool false, .bool true]) ∧ w'.ownsRow (w.heap.size + 3) 39 15 lv (2 * n) (flatC (fcs s.data.toList) (2 * n)) ∧ Below w.heap.size w w' :=
  script_gen s hs hT hB3 hB hG (askF 4) (2 * n) (by omega) p b c hp hask (fms s.data.toList) (fcs s.data.toList) rfl
    (fun D T E w1 i hi hg hd => by
      by_cases h2 : i % 2 = 0
      · have e1 : fms s.data.toList i = fsAt s.data.toList (i / 2) := by unfold fms; rw [if_pos h2]
        have e2 : fms s.data.toList (i + 1) = mNx (fsAt s.data.toList (i / 2)) := by unfold fms; rw [if_neg (by omega), show (i + 1) / 2 = i / 2 by omega]
        have e3 : fcs s.data.toList i = toldC ((mNx (msAt s.data.toList (i / 2))).has 1) ⟨#[]⟩ ⟨#[]⟩ 0 0 false 0 0 false := by unfold fcs; rw [if_pos h2]
        have e4 : askF 4 i = (0, 0, 0) := by unfold askF; rw [if_pos h2]
        rw [e4, e3, e2, ← fs_nx]
        rw [e1] at hd
        exact told_next hd 0 0
      · have e1 : fms s.data.toList i = mNx (fsAt s.data.toList (i / 2)) := by unfold fms; rw [if_neg h2]
        have e2 : fms s.data.toList (i + 1) = (mFirst (mNx (fsAt s.data.toList (i / 2)))).1 := by unfold fms; rw [if_pos (by omega), show (i + 1) / 2 = i / 2 + 1 by omega]; rfl
        have e3 : fcs s.data.toList i = toldF (mFirst (mNx (msAt s.data.toList (i / 2)))).2 := by unfold fcs; rw [if_neg h2]
        have e4 : askF 4 i = (4, 0, 0) := by unfold askF; rw [if_neg h2]
        rw [e4, e3, e2, ← fs_nx]
        rw [e1] at hd
        have h := told_field hd hg 0 0
        rw [field_first _ (nx_sec _)] at h
        exact h)
    (fun i _ => fcs_good _ i)
theorem all_skips (s : ByteArray) (hs : s.size ≤ 900) (hT : Tabs w) (hB3 : 3 < B) (hB : B ≤ w.heap.size) (hG : Glob B w) (n : Nat) (hn : n ≤ 5000) (hhas : ∀ i, i < n → (mNx (msAt s.data.toList i)).has 1 = true) (hend : (mNx (msAt s.data.toList n)).has 1 = false) :
    Calls Tryz.prog 10 #[.string s, .slice none 0 0] w fun e w' => ∃ lv xs D E, e = .returned (.tuple #[lv, .bool true]) ∧ w'.ownsRow (w.heap.size + 2) 48 10 lv n xs ∧ (∀ i, i < n → RowAt (w.heap.size + 2) D E lv xs w' i (mNx (msAt s.data.toList i))) ∧ Below w.heap.size w w' :=
  all_code s hs hT hB3 hB hG n hn (msAt s.data.toList) rfl (fun i hi => ⟨hhas i hi, nx_sec _, rfl⟩) hend
end
end Go.Proofs.YtejlokdcocacaaaGreatDoor
