/- A decoder over a text: impl's decoder, NewDecoderWithBytes. -/
import Derived.Test.YtejlokdcocacaaaGreatDoorKQuote
import Derived.Test.YtejlokdcocacaaaGreatDoorKMdl
import Derived.Lib.ConvBytes
import Derived.Outline
import Derived.Handy
namespace Go.Proofs.YtejlokdcocacaaaGreatDoor
open Go.RowKit

/-- The state at the start of a text. -/
def mStart (l : List UInt8) : MSt := ⟨l, 0, 0, 5, 1⟩

theorem make512 (w : World) : (Instr.makeSlice 69 (.int .i64 0) (.int .i64 512)).run Tryz.prog w = .ok (.slice (some ⟨w.heap.size, 0, none⟩) 0 512) (w.alloc (.cells (Array.replicate 512 (.int .u8 0)) 5)) := by kernel_rfl

theorem bytes_below (w : World) (e : TypeId) (s : ByteArray) : Below w.heap.size w (Lib.bytesWorld w e s) :=
  ⟨rfl, rfl, rfl, by rw [Lib.bytesWorld_size]; omega, fun k hk => Lib.bytesWorld_at_old w e s k hk⟩

set_option maxHeartbeats 2000000 in
theorem new_code {w : World} {T n c : Nat} :
    Calls Tryz.prog 26 #[.slice (some ⟨T, 0, none⟩) n c] w fun e w' => e = .returned (.pointer (some ⟨w.heap.size + 1, 0, none⟩)) ∧
      w' = (w.alloc (.cells (Array.replicate 512 (.int .u8 0)) 5)).alloc (.cells (decCells T n c 0 0 5 false (.slice (some ⟨w.heap.size, 0, none⟩) 0 512) 1) 92) := by
  have hmk := make512
  generalize (Array.replicate 512 (Value.int .u8 0)) = Z at hmk ⊢
  go_enter Tryz.func26, Tryz.ntmps26
  go_wp2
  go_ret
  exact ⟨rfl, rfl⟩

set_option maxHeartbeats 2000000 in
theorem start_code {w : World} {B : Nat} (s : ByteArray) (hs : s.size ≤ 900) (hT : Tabs w) (hB3 : 3 < B) (hB : B ≤ w.heap.size) :
    Calls Tryz.prog 12 #[.string s, .slice none 0 0, .bool false] w fun e w' => ∃ D T E, e = .returned (.pointer (some ⟨D, 0, none⟩)) ∧ Rep w' B D T E false ((mStart s.data.toList).d []) ∧ Below w.heap.size w w' ∧ w.heap.size ≤ D ∧ w.heap.size ≤ T ∧ w.heap.size ≤ E := by
  have hcv := Lib.run_convert_string_bytes (P := Tryz.prog) w 9 69 5 s Tryz.underlying9 Tryz.underlying69 Tryz.underlying5
  have hb := bytes_below w 5 s
  have hz := Lib.bytesWorld_size w 5 s
  have hn := Lib.bytesWorld_at_new w 5 s
  have HB := hid hb
  have HZ := hid hz
  have HN := hid hn
  have HT := hid hT
  clear hb hz hn hT
  go_enter Tryz.func12, Tryz.ntmps12
  go_wp2_with fail
  refine new_code.mono ?_
  rintro e w1 ⟨rfl, rfl⟩
  go_wp2_with fail
  go_ret
  obtain ⟨cap, hcap⟩ : ∃ cap, grownCap w s.size 0 5 = cap := ⟨_, rfl⟩
  have hg1 := grownCap_ge w s.size 0 5
  have hg2 := grownCap_le_maxLen w s.size 0 5 (by unfold maxLen; omega)
  rw [hcap] at hg1 hg2 ⊢
  generalize hw1 : Lib.bytesWorld w 5 s = w1 at *
  have hz := HZ.out
  have hn := HN.out
  have hbel := HB.out
  refine ⟨w1.heap.size + 1, w.heap.size, w1.heap.size, rfl, ?_, (hbel.alloc (by omega) _).alloc (by simp; omega) _, by omega, Nat.le_refl _, by omega⟩
  have hl : s.data.toList.length = s.size := rfl
  have hT1 := HT.out.keep (hbel.block 2 (by omega)) (hbel.block 3 (by omega))
  have hT2 : Tabs ((w1.alloc (.cells (Array.replicate 512 (.int .u8 0)) 5)).alloc (.cells (decCells w.heap.size s.size cap 0 0 5 false (.slice (some ⟨w1.heap.size, 0, none⟩) 0 512) 1) 92)) :=
    hT1.keep (by rw [Below.heap_alloc _ _ _ (by simp; omega), Below.heap_alloc _ _ _ (by omega)]) (by rw [Below.heap_alloc _ _ _ (by simp; omega), Below.heap_alloc _ _ _ (by omega)])
  refine ⟨hB3, hT2, by omega, by omega, by omega, by omega, by omega, ⟨cap, 512, by show s.data.toList.length ≤ cap; omega, hg2, ?_, ?_⟩, ⟨Lib.bytesCells w 5 s, ((Lib.bytesCells w 5 s).size, (Lib.bytesCells w 5 s).size + 1), ?_, ?_⟩, Nat.zero_le _, by show s.data.toList.length ≤ 900; omega, Nat.le_refl _, Nat.le_refl _, by show 0 ≤ 2000; omega, by show (-10000 : Int) ≤ 1; omega, by show (1 : Int) ≤ 10000; omega⟩
  · have := heap_alloc_new (w1.alloc (.cells (Array.replicate 512 (.int .u8 0)) 5)) (.cells (decCells w.heap.size s.size cap 0 0 5 false (.slice (some ⟨w1.heap.size, 0, none⟩) 0 512) 1) 92)
    simp only [World.size_alloc] at this
    exact this
  · refine ⟨rfl, .inr ⟨w1.heap.size, 512, Array.replicate 512 (.int .u8 0), rfl, by omega, ?_, Nat.zero_le _, by unfold maxLen; omega, by simp, rfl⟩⟩
    rw [Below.heap_alloc _ _ _ (by simp)]
    exact heap_alloc_new w1 _
  · rw [Below.heap_alloc _ _ _ (by simp; omega), Below.heap_alloc _ _ _ (by omega)]
    exact hn
  · show (Lib.bytesCells w 5 s).toList.take s.data.toList.length = s.data.toList.map byteV
    unfold Lib.bytesCells
    rw [Array.toList_append, List.take_append_of_le_length (by simp), List.take_of_length_le (by simp)]
    simp [byteV]
end Go.Proofs.YtejlokdcocacaaaGreatDoor
