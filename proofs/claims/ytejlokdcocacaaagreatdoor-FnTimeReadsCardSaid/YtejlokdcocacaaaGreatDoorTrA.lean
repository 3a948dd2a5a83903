/- The law FnTimeReads: its walk. -/
import Derived.Test.YtejlokdcocacaaaGreatDoorScript
import Derived.Test.YtejlokdcocacaaaGreatDoorPlnT
import Derived.Test.YtejlokdcocacaaaGreatDoorItx
import Derived.Lib.AppendIntMem
namespace Go.Proofs.YtejlokdcocacaaaGreatDoor
open Go.RowKit

theorem nanos_bounds (p : Nat) (x n : Int) (h0 : -9223372036854775808 ≤ x) (h1 : x ≤ 9223372036854775807) (h : nanosOf p x = (n, true)) : -9223372036854775808 ≤ n ∧ n ≤ 9223372036854775807 := by
  unfold nanosOf at h
  split at h
  · simp at h; omega
  · split at h
    · simp only [Prod.mk.injEq, and_true] at h
      rw [← h]
      unfold wrap64
      omega
    · simp at h

/-- The four calls. -/
def asksT (p : Nat) (df : Int) (i : Nat) : Int × Int × Int := if i = 1 ∨ i = 3 then (6, (p : Int), df) else (0, 0, 0)

/-- The answers. -/
def csT (r : Int × Bool) (left : Int) (i : Nat) : Array Value :=
  if i = 1 then (if r.2 = true then toldC true ⟨#[]⟩ ⟨#[]⟩ 0 r.1 false 0 0 false else toldC false ⟨#[]⟩ ⟨#[]⟩ 0 0 true 0 0 true)
  else if i = 3 then toldC true ⟨#[]⟩ ⟨#[]⟩ 0 left false 0 0 false
  else toldC true ⟨#[]⟩ ⟨#[]⟩ 0 0 false 0 0 false

theorem csT_good (r : Int × Bool) (left : Int) (i : Nat) : (csT r left i).size = 15 ∧ ∀ u ∈ (csT r left i).toList, u.oneCell' = true := by
  have key : ∀ (sm : Bool) (n : Int) (fi fr : Bool), (toldC sm ⟨#[]⟩ ⟨#[]⟩ 0 n fi 0 0 fr).size = 15 ∧ ∀ u ∈ (toldC sm ⟨#[]⟩ ⟨#[]⟩ 0 n fi 0 0 fr).toList, u.oneCell' = true := fun sm n fi fr =>
    ⟨rfl, fun u hu => (Array.all_eq_true_iff_forall_mem.1 (toldC_one sm ⟨#[]⟩ ⟨#[]⟩ 0 n fi 0 0 fr)) u (by simpa using hu)⟩
  unfold csT
  split
  · split
    · exact key _ _ _ _
    · exact key _ _ _ _
  split
  · exact key _ _ _ _
  · exact key _ _ _ _

/-- The plain states behind each call. -/
def msT (m0 a1 a2 a3 a4 : MSt) : Nat → MSt
  | 0 => m0
  | 1 => a1
  | 2 => a2
  | 3 => a3
  | _ => a4

theorem step_all {p : Nat} (hp : p ≤ 3) {x df : Int} (x0 : -9223372036854775808 ≤ x) (x1 : x ≤ 9223372036854775807) (d0 : -9223372035854775808 ≤ df) (d1 : df ≤ 9223372036854775807)
    {m0 a1 a2 a3 a4 : MSt} (h1 : mNx m0 = a1) (g1 : a1.has 1 = true) (h2 : timeOf (toK 3 a1).2 (toK 3 a1).1 = (a2, .ok (Lib.itoa x))) (h3 : mNx a2 = a3) (g3 : a3.has 1 = true) (h4 : timeOf (toK 3 a3).2 (toK 3 a3).1 = (a4, .ok []))
    {B D T E : Nat} {w1 : World} (i : Nat) (hi : i < 4) (hg : Glob B w1) (hd : Dc B D T E w1 (msT m0 a1 a2 a3 a4 i) E w1) :
    Calls Tryz.prog 13 #[.pointer (some ⟨D, 0, none⟩), .agg #[.int .i64 (asksT p df i).1, .int .i64 (asksT p df i).2.1, .int .i64 (asksT p df i).2.2]] w1 fun e w' =>
      e = .returned (.agg (csT (nanosOf p x) (df - df % ticksOf p) i)) ∧ ∃ E', Dc B D T E w1 (msT m0 a1 a2 a3 a4 (i + 1)) E' w' := by
  have hlen : (Lib.itoa x).length ≤ 900 := by have := Lib.itoa_length_le x x0 x1; omega
  have hpa := parse_itoa x x0 x1
  obtain rfl | rfl | rfl | rfl : i = 0 ∨ i = 1 ∨ i = 2 ∨ i = 3 := by omega
  · have := told_next hd 0 0
    rw [show mNx (msT m0 a1 a2 a3 a4 0) = a1 from h1, g1] at this
    exact this
  · rcases hn : nanosOf p x with ⟨n, ok⟩
    cases ok
    · have := told_out hd p hp df (by omega) d1 h2 (itoa_ne x) hlen hpa hn hg
      exact this
    · obtain ⟨n0, n1⟩ := nanos_bounds p x n x0 x1 hn
      have := told_ok hd p hp df (by omega) d1 h2 (itoa_ne x) hlen hpa hn n0 n1
      exact this
  · have := told_next hd 0 0
    rw [show mNx (msT m0 a1 a2 a3 a4 2) = a3 from h3, g3] at this
    exact this
  · exact told_none hd p hp df d0 d1 h4

/-- The text. -/
def textT (x : Int) : ByteArray := (⟨#[109, 32, 102, 61, 49, 32]⟩ ++ ⟨(Lib.itoa x).toArray⟩) ++ ⟨#[10, 109, 32, 102, 61, 49, 10]⟩

theorem textT_list (x : Int) : (textT x).data.toList = 109 :: 32 :: 102 :: 61 :: 49 :: 32 :: (Lib.itoa x ++ 10 :: [109, 32, 102, 61, 49, 10]) := by
  unfold textT
  simp [ByteArray.data_append]
theorem textT_size (x : Int) (x0 : -9223372036854775808 ≤ x) (x1 : x ≤ 9223372036854775807) : (textT x).size ≤ 900 := by
  have h : (textT x).size = (textT x).data.toList.length := rfl
  have := Lib.itoa_length_le x x0 x1
  rw [h, textT_list]
  simp
  omega

/-- DecodeScript over the text and the four calls. -/
theorem script_T {w : World} {B : Nat} (hT : Tabs w) (hB3 : 3 < B) (hB : B ≤ w.heap.size) (hG : Glob B w) (p : Nat) (hp : p ≤ 3) (x df : Int) (x0 : -9223372036854775808 ≤ x) (x1 : x ≤ 9223372036854775807) (d0 : -9223372035854775808 ≤ df) (d1 : df ≤ 9223372036854775807)
    (b c : Nat) (hask : AsksAt w b 4 (asksT p df)) :
    Calls Tryz.prog 5 #[.string (textT x), .slice none 0 0, .bool false, .slice (some ⟨b, 0, none⟩) (4 : Nat) c] w fun e w' => ∃ lv, e = .returned (.tuple #[lv, .bool false, .bool true]) ∧ w'.ownsRow (w.heap.size + 3) 39 15 lv 4 (flatC (csT (nanosOf p x) (df - df % ticksOf p)) 4) ∧ Below w.heap.size w w' := by
  obtain ⟨a1, a2, a3, a4, h1, g1, h2, h3, g3, h4⟩ := two_entries (itoa_ne x) (itoa_time x)
  rw [← textT_list] at h1
  exact script_code (textT x) (textT_size x x0 x1) hT hB3 hB hG (asksT p df) 4 (by omega) b c hask (msT (mStart (textT x).data.toList) a1 a2 a3 a4) (csT (nanosOf p x) (df - df % ticksOf p)) rfl
    (fun D T E w1 i hi hg hd => step_all hp x0 x1 d0 d1 h1 g1 h2 h3 g3 h4 i hi hg hd) (fun i _ => csT_good _ _ i)
end Go.Proofs.YtejlokdcocacaaaGreatDoor
