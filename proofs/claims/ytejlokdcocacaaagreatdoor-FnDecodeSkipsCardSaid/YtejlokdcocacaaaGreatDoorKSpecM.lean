/- The reference's line end and run beside the model's. -/
import Derived.Test.YtejlokdcocacaaaGreatDoorKSpecI
namespace Go.Proofs.YtejlokdcocacaaaGreatDoor
open Go.RowKit

section
variable {s : ByteArray} {i p : Nat} {m : MSt}

theorem Sp.eol (h : Sp s i p m) : m.eol.1 = (lineEnd (restOf s i)).2 ∧ (m.eol.1 = true → Sp s (i + (lineEnd (restOf s i)).1) p m.eol.2) ∧ (m.eol.1 = false → m.eol.2 = m) := by
  have hi2 := h.2.1
  unfold MSt.eol
  by_cases hi : i < s.size
  · have h1 : m.has 1 = true := by rw [h.has1]; simpa using hi
    have ha := h.at0 hi
    have hr := restOf_at s i hi
    obtain ⟨c, hc⟩ : ∃ c, s[i] = c := ⟨_, rfl⟩
    rw [hc] at ha hr
    rw [if_neg (by rw [h1]; simp), ha, hr]
    by_cases h10 : c = 10
    · rw [if_pos h10]
      have e : lineEnd (c :: restOf s (i + 1)) = (1, true) := by
        rcases restOf s (i + 1) with _ | ⟨d, t⟩ <;> simp [lineEnd, h10]
      rw [e]
      exact ⟨rfl, fun _ => (h.adv 1 (by omega)).line _, fun h => by simp at h⟩
    · rw [if_neg h10]
      by_cases h13 : c = 13
      · rw [if_pos h13]
        have h2 : m.has 2 = decide (i + 1 < s.size) := by
          rw [left_has (by omega), h.rest, restOf_len]
          congr 1
          exact propext (by omega)
        by_cases hi1 : i + 1 < s.size
        · rw [if_neg (by rw [h2]; simp [hi1])]
          have hr1 := restOf_at s (i + 1) hi1
          have hd : m.t.getD (m.r1 + 1) 0 = s[i + 1] := by
            have h3 : m.rest = c :: restOf s (i + 1) := h.rest.trans hr
            unfold MSt.rest at h3
            have h4 : (m.t.drop m.r1)[1]? = some s[i + 1] := by rw [h3, hr1]; rfl
            rw [List.getElem?_drop] at h4
            simp [List.getD, h4]
          rw [hd, hr1]
          by_cases hd10 : s[i + 1] = 10
          · rw [if_pos hd10]
            have e : lineEnd (c :: s[i + 1] :: restOf s (i + 1 + 1)) = (2, true) := by simp [lineEnd, h13, hd10]
            rw [e]
            exact ⟨rfl, fun _ => (h.adv 2 (by omega)).line _, fun h => by simp at h⟩
          · rw [if_neg hd10]
            have e : lineEnd (c :: s[i + 1] :: restOf s (i + 1 + 1)) = (0, false) := by simp [lineEnd, h13, hd10]
            rw [e]
            exact ⟨rfl, fun h => by simp at h, fun _ => rfl⟩
        · rw [if_pos (by rw [h2]; simp [hi1])]
          have hr1 := restOf_end s (i + 1) (by omega)
          rw [hr1]
          have e : lineEnd [c] = (1, true) := by simp [lineEnd, h13]
          rw [e]
          exact ⟨rfl, fun _ => h.adv 1 (by omega), fun h => by simp at h⟩
      · rw [if_neg h13]
        have e : lineEnd (c :: restOf s (i + 1)) = (0, false) := by
          rcases restOf s (i + 1) with _ | ⟨d, t⟩ <;> simp [lineEnd, h10, h13]
        rw [e]
        exact ⟨rfl, fun h => by simp at h, fun _ => rfl⟩
  · have h1 : m.has 1 = false := by rw [h.has1]; simpa using hi
    rw [if_pos h1, restOf_end s i (by omega)]
    exact ⟨rfl, fun _ => h, fun h => by simp at h⟩

theorem Sp.ran (h : Sp s i p m) (f : Nat → Bool) : m.ran f = (restOf s i).take (runN f s i) := by
  rw [ran_rest, h.rest]
  unfold runN restOf
  have := List.takeWhile_append_dropWhile (p := fun c : UInt8 => f c.toNat) (l := s.data.toList.drop i)
  conv => rhs; arg 2; rw [← this]
  rw [List.take_left]

theorem ran_nil (h : Sp s i p m) (f : Nat → Bool) : m.ran f = [] ↔ runN f s i = 0 := by
  rw [h.ran f]
  have h1 := runN_le (f := f) h.2.1
  constructor
  · intro h2
    have h3 := congrArg List.length h2
    rw [List.length_take, restOf_len] at h3
    simp at h3
    omega
  · intro h2
    rw [h2]; rfl

theorem extract_data (s : ByteArray) (i n : Nat) : (s.extract i (i + n)).data.toList = (restOf s i).take n := by
  unfold restOf
  simp only [ByteArray.data_extract, Array.toList_extract, List.extract_eq_take_drop]
  congr 1
  omega
end
end Go.Proofs.YtejlokdcocacaaaGreatDoor

/- The reference's skip, where nothing is to be skipped. -/
namespace Go.Proofs.YtejlokdcocacaaaGreatDoor
open Go.RowKit

set_option maxHeartbeats 4000000 in
set_option maxRecDepth 100000 in
theorem skip_idle {w : World} {R : Nat} {s : ByteArray} {i p fr : Nat} (h : IsRd w R s i p fr) (q : Int) (hp0 : p ≠ 0) (h1 : p = 1 → q ≤ 1) (h2 : p = 2 → q ≤ 2) (h3 : p = 3 → q ≤ 3) :
    Calls Tryz.prog 42 #[.pointer (some ⟨R, 0, none⟩), .int .i64 q] w fun e w' => (∃ x y : Int, e = .returned (.agg (F37 false x y))) ∧ IsRd w' R s i p fr ∧ Rds R w w' := by
  have hSv := Sv.begin h
  obtain ⟨w1, hw1⟩ : ∃ w1, w.alloc z37 = w1 := ⟨_, rfl⟩
  have hrow0 : w1.heap[w.heap.size]? = some (.cells #[.bool false, .int .i64 0, .int .i64 0, .bool false] 37 (0, 0)) := by rw [← hw1]; exact heap_alloc_new _ _
  rw [hw1] at hSv
  have HS := hid hSv
  obtain ⟨c0, c1, c2, c3, fz⟩ := hSv.rd.cells
  have hR1 := lt_of_block hSv.rd
  have HROW := hid hrow0
  have n0 : w1.cell? ⟨w.heap.size, 0, none⟩ = some (.bool false) := cell_of_row w1 _ 0 _ _ _ hrow0
  have n1 : w1.cell? ⟨w.heap.size, 1, none⟩ = some (.int .i64 0) := cell_of_row w1 _ 1 _ _ _ hrow0
  have n2 : w1.cell? ⟨w.heap.size, 2, none⟩ = some (.int .i64 0) := cell_of_row w1 _ 2 _ _ _ hrow0
  have n3 : w1.cell? ⟨w.heap.size, 3, none⟩ = some (.bool false) := cell_of_row w1 _ 3 _ _ _ hrow0
  have nf : ∀ o, w1.frozen? ⟨w.heap.size, o, none⟩ = false := fun o => frozen_of_row w1 _ o _ _ hrow0
  clear h hSv c0 c1 c3 hrow0
  obtain ⟨V, hV⟩ : ∃ V, w.heap.size = V := ⟨_, rfl⟩
  have HV := hid hV
  rw [hV] at n0 n1 n2 n3 nf
  have e0 : ((p : Int) == 0) = false := by rw [beq_eq_false_iff_ne]; omega
  obtain ⟨b1, hb1⟩ : ∃ b, ((p : Int) == 1) = b := ⟨_, rfl⟩
  obtain ⟨b2, hb2⟩ : ∃ b, ((p : Int) == 2) = b := ⟨_, rfl⟩
  obtain ⟨b3, hb3⟩ : ∃ b, ((p : Int) == 3) = b := ⟨_, rfl⟩
  have q1 : b1 = true → ¬ 1 < q := fun h => by rw [h, beq_iff_eq] at hb1; have := h1 (by omega); omega
  have q2 : b2 = true → ¬ 2 < q := fun h => by rw [h, beq_iff_eq] at hb2; have := h2 (by omega); omega
  have q3 : b3 = true → ¬ 3 < q := fun h => by rw [h, beq_iff_eq] at hb3; have := h3 (by omega); omega
  have HQ1 := hid q1
  have HQ2 := hid q2
  have HQ3 := hid q3
  clear q1 q2 q3 h1 h2 h3 hp0
  go_enter Tryz.func42, Tryz.ntmps42
  go_upto_region 1 with fail
  change Code.wp _ _ _ _ (w.alloc z37)
  rw [hw1]
  clear hw1 hV
  go_wp2_with fail
  go_loopg [] 1 (fun gh wx => wx = w1)
  case atStart => rfl
  case round =>
    obtain rfl := hrel
    go_upto_region 3 with fail
    have HB2 := hid hb2
    have HB3 := hid hb3
    clear hb2 hb3
    cases b1
    · go_wp2_with fail
      clear hb1
      go_loopg [] 1 (fun gh wx => wx = wr)
      case atStart => rfl
      case round =>
        obtain rfl := hrel
        have hb2 := HB2.out
        cases b2
        · go_upto_region 7 with fail
          clear hb2
          have hb3 := HB3.out
          cases b3
          · go_wp2_with fail
            rw [HV.out] at HS
            have HS5 := HS.out.relay false 0 0
            obtain ⟨x9, y9, hx9⟩ := HS5.row
            refine bodyPost_ret (res37 rfl rfl hx9 rfl) rfl ?_
            exact ⟨⟨x9, y9, rfl⟩, HS5.rd, HS5.fm⟩
          · have q3 := HQ3.out rfl
            go_wp2_with fail
            rw [HV.out] at HS
            have HS5 := HS.out.relay false 0 0
            obtain ⟨x9, y9, hx9⟩ := HS5.row
            refine bodyPost_ret (res37 rfl rfl hx9 rfl) rfl ?_
            exact ⟨⟨x9, y9, rfl⟩, HS5.rd, HS5.fm⟩
        · have q2 := HQ2.out rfl
          go_upto_region 7 with fail
          clear hb2 q2
          have hb3 := HB3.out
          cases b3
          · go_wp2_with fail
            rw [HV.out] at HS
            have HS5 := HS.out.relay false 0 0
            obtain ⟨x9, y9, hx9⟩ := HS5.row
            refine bodyPost_ret (res37 rfl rfl hx9 rfl) rfl ?_
            exact ⟨⟨x9, y9, rfl⟩, HS5.rd, HS5.fm⟩
          · have q3 := HQ3.out rfl
            go_wp2_with fail
            rw [HV.out] at HS
            have HS5 := HS.out.relay false 0 0
            obtain ⟨x9, y9, hx9⟩ := HS5.row
            refine bodyPost_ret (res37 rfl rfl hx9 rfl) rfl ?_
            exact ⟨⟨x9, y9, rfl⟩, HS5.rd, HS5.fm⟩
    · have q1 := HQ1.out rfl
      go_wp2_with fail
      clear hb1 q1
      go_loopg [] 1 (fun gh wx => wx = wr)
      case atStart => rfl
      case round =>
        obtain rfl := hrel
        have hb2 := HB2.out
        cases b2
        · go_upto_region 7 with fail
          clear hb2
          have hb3 := HB3.out
          cases b3
          · go_wp2_with fail
            rw [HV.out] at HS
            have HS5 := HS.out.relay false 0 0
            obtain ⟨x9, y9, hx9⟩ := HS5.row
            refine bodyPost_ret (res37 rfl rfl hx9 rfl) rfl ?_
            exact ⟨⟨x9, y9, rfl⟩, HS5.rd, HS5.fm⟩
          · have q3 := HQ3.out rfl
            go_wp2_with fail
            rw [HV.out] at HS
            have HS5 := HS.out.relay false 0 0
            obtain ⟨x9, y9, hx9⟩ := HS5.row
            refine bodyPost_ret (res37 rfl rfl hx9 rfl) rfl ?_
            exact ⟨⟨x9, y9, rfl⟩, HS5.rd, HS5.fm⟩
        · have q2 := HQ2.out rfl
          go_upto_region 7 with fail
          clear hb2 q2
          have hb3 := HB3.out
          cases b3
          · go_wp2_with fail
            rw [HV.out] at HS
            have HS5 := HS.out.relay false 0 0
            obtain ⟨x9, y9, hx9⟩ := HS5.row
            refine bodyPost_ret (res37 rfl rfl hx9 rfl) rfl ?_
            exact ⟨⟨x9, y9, rfl⟩, HS5.rd, HS5.fm⟩
          · have q3 := HQ3.out rfl
            go_wp2_with fail
            rw [HV.out] at HS
            have HS5 := HS.out.relay false 0 0
            obtain ⟨x9, y9, hx9⟩ := HS5.row
            refine bodyPost_ret (res37 rfl rfl hx9 rfl) rfl ?_
            exact ⟨⟨x9, y9, rfl⟩, HS5.rd, HS5.fm⟩
end Go.Proofs.YtejlokdcocacaaaGreatDoor
