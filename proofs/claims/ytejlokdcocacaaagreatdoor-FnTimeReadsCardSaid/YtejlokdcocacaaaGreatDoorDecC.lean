/- Errors: errors.New, counting a byte, the last place of one, and the decoder's syntaxErrorf. -/
import Derived.Test.YtejlokdcocacaaaGreatDoorDecB
namespace Go.Proofs.YtejlokdcocacaaaGreatDoor
open Go.RowKit

/-- How often a byte stands in a list. -/
def cntB (l : List UInt8) (c : UInt8) : Nat := (l.filter (· == c)).length

theorem cntB_le (l : List UInt8) (c : UInt8) : cntB l c ≤ l.length := List.length_filter_le _ _

theorem cntB_snoc (l : List UInt8) (k : Nat) (hk : k < l.length) (c : UInt8) : cntB (l.take (k + 1)) c = cntB (l.take k) c + if l[k] = c then 1 else 0 := by
  unfold cntB
  rw [List.take_succ_eq_append_getElem hk, List.filter_append, List.length_append]
  by_cases h : l[k] = c <;> simp [h]

theorem BytesIs.drewN {w : World} {v : Value} {l : List UInt8} (h : BytesIs w v l) (n : Nat) : BytesIs (w.drewN n) v l := h

theorem BytesIs.keep {w w' : World} {v : Value} {l : List UInt8} (h : BytesIs w v l) (hs : w.heap.size ≤ w'.heap.size) (hk : ∀ b, v.ownBlock = some b → w'.heap[b]? = w.heap[b]?) : BytesIs w' v l := by
  obtain ⟨b, o, c, rfl, h1, h2, h3, h4⟩ := h
  exact ⟨b, o, c, rfl, h1, h2, by omega, fun i hi => (World.cell?_of_block (w := w) (a := ⟨b, o + i, none⟩) (hk b rfl)).trans (h4 i hi)⟩

theorem BytesIs.below {w w' : World} {v : Value} {l : List UInt8} (h : BytesIs w v l) (k : Below w.heap.size w w') : BytesIs w' v l :=
  h.keep k.size fun b hb => by
    obtain ⟨b', o, c, rfl, _, _, h3, _⟩ := h
    simp [Value.ownBlock] at hb
    subst hb
    exact k.block _ h3

set_option maxHeartbeats 400000 in
theorem errorsNew_any (s : ByteArray) (w : World) :
    Calls Tryz.prog 58 #[.string s] w fun e w' => e = .returned (.iface 167 (.pointer (some ⟨w.heap.size, 0, none⟩))) ∧ w' = w.alloc (.cells #[.string s] 169) := by
  go_enter Tryz.func58, Tryz.ntmps58
  go_wp2
  go_ret
  exact ⟨rfl, rfl⟩

set_option maxHeartbeats 400000 in
theorem count_any {w : World} {v : Value} {l : List UInt8} (h : BytesIs w v l) (hl : l.length ≤ 1000000) (c : UInt8) (cv : Int) (hc : cv = (c.toNat : Int)) :
    Calls Tryz.prog 100 #[v, .int .u8 cv] w fun e w' => e = .returned (.int .i64 (cntB l c : Int)) ∧ w' = w := by
  subst hc
  obtain ⟨b, o, cp, rfl, h1, h2, h3, h4⟩ := h
  clear h3
  have H4 := hid h4; clear h4
  obtain ⟨n, hn⟩ : ∃ n, n = l.length := ⟨_, rfl⟩
  rw [← hn] at h1 ⊢
  have HN := hid hn
  have hn1 : n ≤ 1000000 := by omega
  clear hn
  go_enter Tryz.func100, Tryz.ntmps100
  go_wp2
  go_loop [5, 10] (fun t i => ∃ k : Nat, k ≤ n ∧ i = .int .i64 k ∧ t = .int .i64 (cntB (l.take k) c : Int)) (fun _ i => n - (intOf i).toNat)
  case atStart => exact ⟨0, Nat.zero_le _, rfl, rfl⟩
  case round =>
    obtain ⟨k, hk, rfl, rfl⟩ := hrel
    have hcl := cntB_le (l.take k) c
    have hc2 : cntB (l.take k) c ≤ k := Nat.le_trans hcl (by simp; omega)
    clear hcl
    by_cases hlt : k < n
    · have hkl : k < l.length := by rw [← HN.out]; exact hlt
      have hcell := H4.out k hkl
      have hs := cntB_snoc l k hkl c
      have HS := hid hs; clear hs
      by_cases he : l[k] = c
      · rw [he] at hcell
        have HE := hid he; clear he
        have e0 : (((c.toNat : Int)) == (c.toNat : Int)) = true := by simp
        go_wp2
        go_round
        case rel => exact ⟨k + 1, by omega, by go_num, by rw [HS.out, if_pos HE.out]; go_num⟩
        case measure => simp [intOf]; omega
      · have hne : (((l[k]).toNat : Int) == (c.toNat : Int)) = false := by
          rw [beq_eq_false_iff_ne]
          intro e
          exact he (UInt8.toNat_inj.1 (by omega))
        generalize (l[k]).toNat = x at *
        have HE := hid he; clear he
        go_wp2
        go_round
        case rel => exact ⟨k + 1, by omega, by go_num, by rw [HS.out, if_neg HE.out]; rfl⟩
        case measure => simp [intOf]; omega
    · go_wp2
      go_ret
      obtain rfl : k = n := by omega
      have := HN.out
      exact ⟨by rw [this, List.take_length]; rfl, rfl⟩

/-- The last place of a byte, or -1. -/
def lastB (l : List UInt8) (c : UInt8) : Nat → Int
  | 0 => -1
  | k + 1 => if l.getD k 0 = c then (k : Int) else lastB l c k

theorem lastB_le (l : List UInt8) (c : UInt8) : ∀ k, -1 ≤ lastB l c k ∧ lastB l c k < k
  | 0 => by simp [lastB]
  | k + 1 => by
    have := lastB_le l c k
    unfold lastB
    split <;> omega

set_option maxHeartbeats 400000 in
theorem lastIndex_any {w : World} {v : Value} {l : List UInt8} (h : BytesIs w v l) (hl : l.length ≤ 1000000) (c : UInt8) (cv : Int) (hc : cv = (c.toNat : Int)) :
    Calls Tryz.prog 107 #[v, .int .u8 cv] w fun e w' => e = .returned (.int .i64 (lastB l c l.length)) ∧ w' = w := by
  subst hc
  obtain ⟨b, o, cp, rfl, h1, h2, h3, h4⟩ := h
  clear h3
  have H4 := hid h4; clear h4
  obtain ⟨n, hn⟩ : ∃ n, n = l.length := ⟨_, rfl⟩
  rw [← hn] at h1 ⊢
  have HN := hid hn
  have hn1 : n ≤ 1000000 := by omega
  clear hn
  obtain ⟨ans, hans⟩ : ∃ ans, lastB l c n = ans := ⟨_, rfl⟩
  rw [hans]
  have HA := hid hans; clear hans
  go_enter Tryz.func107, Tryz.ntmps107
  go_wp2_with (go_at_call 143; go_in)
  go_loop [5] (fun i => ∃ k : Nat, k ≤ n ∧ i = .int .i64 ((k : Int) - 1) ∧ Hid (lastB l c k = ans)) (fun i => (intOf i + 1).toNat)
  case atStart => exact ⟨n, Nat.le_refl _, rfl, HA⟩
  case round =>
    obtain ⟨k, hk, rfl, hrest⟩ := hrel
    by_cases hlt : 0 < k
    · obtain ⟨j, rfl⟩ : ∃ j, k = j + 1 := ⟨k - 1, by omega⟩
      have hkl : j < l.length := by rw [← HN.out]; omega
      have hcell := H4.out j hkl
      have hj1 : ((j : Int) + 1 - 1) = (j : Int) := by omega
      have hg : l.getD j 0 = l[j] := by simp [List.getD, hkl]
      have HG := hid hg; clear hg
      rw [show (((j + 1 : Nat) : Int) - 1) = (j : Int) by omega]
      clear hj1
      have hjn : (j : Int) < (n : Int) := by omega
      by_cases he : l[j] = c
      · rw [he] at hcell
        have HE := hid he; clear he
        have e0 : (((c.toNat : Int)) == (c.toNat : Int)) = true := by simp
        go_wp2
        go_ret
        refine ⟨?_, rfl⟩
        have h5 := hrest.out
        unfold lastB at h5
        rw [HG.out, if_pos HE.out] at h5
        rw [← h5]; rfl
      · have hne : (((l[j]).toNat : Int) == (c.toNat : Int)) = false := by
          rw [beq_eq_false_iff_ne]
          intro e
          exact he (UInt8.toNat_inj.1 (by omega))
        have HE := hid he; clear he
        have HX := HG.out
        have HX' := hid HX; clear HX HG
        obtain ⟨x, hx⟩ : ∃ x, (l[j]).toNat = x := ⟨_, rfl⟩
        rw [hx] at hcell hne
        clear hx
        go_wp2
        go_round
        case rel =>
          refine ⟨j, by omega, by go_num, ?_⟩
          have h5 := hrest.out
          unfold lastB at h5
          rw [HX'.out, if_neg HE.out] at h5
          exact h5
        case measure => simp [intOf]
    · obtain rfl : k = 0 := by omega
      go_wp2
      go_ret
      refine ⟨?_, rfl⟩
      have h5 := hrest.out
      unfold lastB at h5
      rw [← h5]; rfl

end Go.Proofs.YtejlokdcocacaaaGreatDoor
