/- The reference's UTF8. -/
import Derived.Test.YtejlokdcocacaaaGreatDoorKTok
import Derived.Test.YtejlokdcocacaaaGreatDoorKSpecC
import Derived.Deep.LoopGhost
import Derived.Handy
import Derived.Deep.CutBlock
import Derived.Deep.DeepCutAuto
namespace Go.Proofs.YtejlokdcocacaaaGreatDoor
open Go.RowKit

theorem u8_lead (c : UInt8) (t : List UInt8) (n lo hi : Nat) (h128 : 128 ≤ c.toNat) (hn : Lib.firstT c.toNat % 8 = n + 2) (hlo : Lib.accLo (Lib.firstT c.toNat / 16) = lo) (hhi : Lib.accHi (Lib.firstT c.toNat / 16) = hi) : u8 (c :: t) 0 0 0 = u8 t (n + 1) lo hi := by
  have h1 : ¬ c.toNat < 128 := by omega
  have h2 : ¬ Lib.firstT c.toNat % 8 = 1 := by omega
  show (if c.toNat < 128 then _ else _) = _
  rw [if_neg h1, if_neg h2, hlo, hhi, hn]
  rfl
theorem u8_bad (c : UInt8) (t : List UInt8) (h : (128 ≤ c.toNat ∧ c.toNat ≤ 193) ∨ 245 ≤ c.toNat) : u8 (c :: t) 0 0 0 = false := by
  have h1 : ¬ c.toNat < 128 := by omega
  have h2 : Lib.firstT c.toNat % 8 = 1 := by
    unfold Lib.firstT
    repeat' split
    all_goals omega
  show (if c.toNat < 128 then _ else _) = _
  rw [if_neg h1, if_pos h2]
theorem u8_low (c : UInt8) (t : List UInt8) (h : c.toNat < 128) (lo hi : Nat) : u8 (c :: t) 0 0 0 = u8 t 0 lo hi := by
  show (if c.toNat < 128 then _ else _) = _
  rw [if_pos h]
  exact u8_zero _ _ _ _ _
theorem u8_cont (c : UInt8) (t : List UInt8) (n lo hi : Nat) : u8 (c :: t) (n + 1) lo hi = if lo ≤ c.toNat ∧ c.toNat ≤ hi then u8 t n 128 191 else false := rfl
theorem lead_kinds (c : UInt8) : (c.toNat < 128) ∨ (194 ≤ c.toNat ∧ c.toNat ≤ 223) ∨ (c.toNat = 224) ∨ (225 ≤ c.toNat ∧ c.toNat ≤ 236) ∨ (c.toNat = 237) ∨ (238 ≤ c.toNat ∧ c.toNat ≤ 239) ∨ (c.toNat = 240) ∨ (241 ≤ c.toNat ∧ c.toNat ≤ 243) ∨ (c.toNat = 244) ∨ ((128 ≤ c.toNat ∧ c.toNat ≤ 193) ∨ 245 ≤ c.toNat) := by
  have := c.toNat_lt
  omega

set_option maxHeartbeats 8000000 in
set_option maxRecDepth 100000 in
theorem utf8_spec (s : ByteArray) (hs : s.size ≤ 1000) (w : World) : Calls Tryz.prog 133 #[.string s] w fun e w' => e = .returned (.bool (Lib.validD s.data.toList)) ∧ w' = w := by
  rw [validD_u8 _ _ (Nat.le_refl _)]
  obtain ⟨V, hV⟩ : ∃ V, u8 s.data.toList 0 0 0 = V := ⟨_, rfl⟩
  rw [hV]
  have HV := hid hV
  clear hV
  go_enter Tryz.func133, Tryz.ntmps133
  go_wp2_with fail
  go_loopg [3] (s.size + 1) (fun gh u3 wx => ∃ i : Nat, gh + i = s.size + 1 ∧ i ≤ s.size ∧ u3 = .int .i64 i ∧ Hid (YtejlokdcocacaaaGreatDoor.u8 (s.data.toList.drop i) 0 0 0 = V) ∧ wx = w)
  case atStart => exact ⟨0, by omega, Nat.zero_le _, rfl, HV, rfl⟩
  case round =>
    obtain ⟨i, hgi, hi, rfl, hv, rfl⟩ := hrel
    clear HV
    by_cases hlt : i < s.size
    · obtain ⟨c, hc⟩ : ∃ c, s[i] = c := ⟨_, rfl⟩
      have hd : s.data.toList.drop i = c :: s.data.toList.drop (i + 1) := by
        rw [List.drop_eq_getElem_cons (show i < s.data.toList.length from hlt), ← at_list s i hlt, hc]
      rw [hd] at hv
      have hc1 := c.toNat_lt
      have hlt2 : (i : Int) < (s.size : Int) := by omega
      go_upto_block 2 with fail
      go_cut [5, 6, 7] (fun u5 u6 u7 wx => ∃ n lo hi : Nat, u5 = .int .i64 n ∧ u6 = .int .u8 lo ∧ u7 = .int .u8 hi ∧ n ≤ 3 ∧ lo ≤ 255 ∧ hi ≤ 255 ∧ Hid (YtejlokdcocacaaaGreatDoor.u8 (s.data.toList.drop (i + 1)) n lo hi = V) ∧ wx = wr)
      case first =>
        rcases lead_kinds c with h | h | h | h | h | h | h | h | h | h
        · have hz : YtejlokdcocacaaaGreatDoor.u8 (s.data.toList.drop (i + 1)) 0 128 191 = V := by rw [← hv.out]; exact (u8_low _ _ h _ _).symm
          have q1 : (c.toNat : Int) < 128 := by omega
          have HZ := hid hz
          clear hz hv hd h
          go_wp2_with fail
          go_meet
          exact ⟨0, 128, 191, rfl, rfl, rfl, by omega, by omega, by omega, HZ, rfl⟩
        · have hz : YtejlokdcocacaaaGreatDoor.u8 (s.data.toList.drop (i + 1)) 1 128 191 = V := by
            rw [← hv.out]
            have hft : Lib.firstT c.toNat = 2 := by
              unfold Lib.firstT
              repeat' split
              all_goals omega
            refine (u8_lead _ _ 0 128 191 (by omega) (by rw [hft]) (by rw [hft]; rfl) (by rw [hft]; rfl)).symm
          have q1 : ¬ ((c.toNat : Int) < 128) := by omega
          have q2 : 194 ≤ (c.toNat : Int) := by omega
          have q3 : (c.toNat : Int) ≤ 223 := by omega
          have HZ := hid hz
          clear hz hv hd h
          go_wp2_with fail
          go_meet
          exact ⟨1, 128, 191, rfl, rfl, rfl, by omega, by omega, by omega, HZ, rfl⟩
        · have hz : YtejlokdcocacaaaGreatDoor.u8 (s.data.toList.drop (i + 1)) 2 160 191 = V := by
            rw [← hv.out]
            have hft : Lib.firstT c.toNat = 19 := by
              unfold Lib.firstT
              repeat' split
              all_goals omega
            refine (u8_lead _ _ 1 160 191 (by omega) (by rw [hft]) (by rw [hft]; rfl) (by rw [hft]; rfl)).symm
          have q1 : ¬ ((c.toNat : Int) < 128) := by omega
          have q2 : 194 ≤ (c.toNat : Int) := by omega
          have q3 : ¬ ((c.toNat : Int) ≤ 223) := by omega
          have q4 : 224 ≤ (c.toNat : Int) := by omega
          have q5 : (c.toNat : Int) ≤ 239 := by omega
          have q224 : ((c.toNat : Int) == 224) = true := by rw [beq_iff_eq]; omega
          have q237 : ((c.toNat : Int) == 237) = false := by rw [beq_eq_false_iff_ne]; omega
          have HZ := hid hz
          clear hz hv hd h
          go_wp2_with fail
          go_meet
          exact ⟨2, 160, 191, rfl, rfl, rfl, by omega, by omega, by omega, HZ, rfl⟩
        · have hz : YtejlokdcocacaaaGreatDoor.u8 (s.data.toList.drop (i + 1)) 2 128 191 = V := by
            rw [← hv.out]
            have hft : Lib.firstT c.toNat = 3 := by
              unfold Lib.firstT
              repeat' split
              all_goals omega
            refine (u8_lead _ _ 1 128 191 (by omega) (by rw [hft]) (by rw [hft]; rfl) (by rw [hft]; rfl)).symm
          have q1 : ¬ ((c.toNat : Int) < 128) := by omega
          have q2 : 194 ≤ (c.toNat : Int) := by omega
          have q3 : ¬ ((c.toNat : Int) ≤ 223) := by omega
          have q4 : 224 ≤ (c.toNat : Int) := by omega
          have q5 : (c.toNat : Int) ≤ 239 := by omega
          have q224 : ((c.toNat : Int) == 224) = false := by rw [beq_eq_false_iff_ne]; omega
          have q237 : ((c.toNat : Int) == 237) = false := by rw [beq_eq_false_iff_ne]; omega
          have HZ := hid hz
          clear hz hv hd h
          go_wp2_with fail
          go_meet
          exact ⟨2, 128, 191, rfl, rfl, rfl, by omega, by omega, by omega, HZ, rfl⟩
        · have hz : YtejlokdcocacaaaGreatDoor.u8 (s.data.toList.drop (i + 1)) 2 128 159 = V := by
            rw [← hv.out]
            have hft : Lib.firstT c.toNat = 35 := by
              unfold Lib.firstT
              repeat' split
              all_goals omega
            refine (u8_lead _ _ 1 128 159 (by omega) (by rw [hft]) (by rw [hft]; rfl) (by rw [hft]; rfl)).symm
          have q1 : ¬ ((c.toNat : Int) < 128) := by omega
          have q2 : 194 ≤ (c.toNat : Int) := by omega
          have q3 : ¬ ((c.toNat : Int) ≤ 223) := by omega
          have q4 : 224 ≤ (c.toNat : Int) := by omega
          have q5 : (c.toNat : Int) ≤ 239 := by omega
          have q224 : ((c.toNat : Int) == 224) = false := by rw [beq_eq_false_iff_ne]; omega
          have q237 : ((c.toNat : Int) == 237) = true := by rw [beq_iff_eq]; omega
          have HZ := hid hz
          clear hz hv hd h
          go_wp2_with fail
          go_meet
          exact ⟨2, 128, 159, rfl, rfl, rfl, by omega, by omega, by omega, HZ, rfl⟩
        · have hz : YtejlokdcocacaaaGreatDoor.u8 (s.data.toList.drop (i + 1)) 2 128 191 = V := by
            rw [← hv.out]
            have hft : Lib.firstT c.toNat = 3 := by
              unfold Lib.firstT
              repeat' split
              all_goals omega
            refine (u8_lead _ _ 1 128 191 (by omega) (by rw [hft]) (by rw [hft]; rfl) (by rw [hft]; rfl)).symm
          have q1 : ¬ ((c.toNat : Int) < 128) := by omega
          have q2 : 194 ≤ (c.toNat : Int) := by omega
          have q3 : ¬ ((c.toNat : Int) ≤ 223) := by omega
          have q4 : 224 ≤ (c.toNat : Int) := by omega
          have q5 : (c.toNat : Int) ≤ 239 := by omega
          have q224 : ((c.toNat : Int) == 224) = false := by rw [beq_eq_false_iff_ne]; omega
          have q237 : ((c.toNat : Int) == 237) = false := by rw [beq_eq_false_iff_ne]; omega
          have HZ := hid hz
          clear hz hv hd h
          go_wp2_with fail
          go_meet
          exact ⟨2, 128, 191, rfl, rfl, rfl, by omega, by omega, by omega, HZ, rfl⟩
        · have hz : YtejlokdcocacaaaGreatDoor.u8 (s.data.toList.drop (i + 1)) 3 144 191 = V := by
            rw [← hv.out]
            have hft : Lib.firstT c.toNat = 52 := by
              unfold Lib.firstT
              repeat' split
              all_goals omega
            refine (u8_lead _ _ 2 144 191 (by omega) (by rw [hft]) (by rw [hft]; rfl) (by rw [hft]; rfl)).symm
          have q1 : ¬ ((c.toNat : Int) < 128) := by omega
          have q2 : 194 ≤ (c.toNat : Int) := by omega
          have q3 : ¬ ((c.toNat : Int) ≤ 223) := by omega
          have q4 : 224 ≤ (c.toNat : Int) := by omega
          have q5 : ¬ ((c.toNat : Int) ≤ 239) := by omega
          have q6 : 240 ≤ (c.toNat : Int) := by omega
          have q7 : (c.toNat : Int) ≤ 244 := by omega
          have q240 : ((c.toNat : Int) == 240) = true := by rw [beq_iff_eq]; omega
          have q244 : ((c.toNat : Int) == 244) = false := by rw [beq_eq_false_iff_ne]; omega
          have HZ := hid hz
          clear hz hv hd h
          go_wp2_with fail
          go_meet
          exact ⟨3, 144, 191, rfl, rfl, rfl, by omega, by omega, by omega, HZ, rfl⟩
        · have hz : YtejlokdcocacaaaGreatDoor.u8 (s.data.toList.drop (i + 1)) 3 128 191 = V := by
            rw [← hv.out]
            have hft : Lib.firstT c.toNat = 4 := by
              unfold Lib.firstT
              repeat' split
              all_goals omega
            refine (u8_lead _ _ 2 128 191 (by omega) (by rw [hft]) (by rw [hft]; rfl) (by rw [hft]; rfl)).symm
          have q1 : ¬ ((c.toNat : Int) < 128) := by omega
          have q2 : 194 ≤ (c.toNat : Int) := by omega
          have q3 : ¬ ((c.toNat : Int) ≤ 223) := by omega
          have q4 : 224 ≤ (c.toNat : Int) := by omega
          have q5 : ¬ ((c.toNat : Int) ≤ 239) := by omega
          have q6 : 240 ≤ (c.toNat : Int) := by omega
          have q7 : (c.toNat : Int) ≤ 244 := by omega
          have q240 : ((c.toNat : Int) == 240) = false := by rw [beq_eq_false_iff_ne]; omega
          have q244 : ((c.toNat : Int) == 244) = false := by rw [beq_eq_false_iff_ne]; omega
          have HZ := hid hz
          clear hz hv hd h
          go_wp2_with fail
          go_meet
          exact ⟨3, 128, 191, rfl, rfl, rfl, by omega, by omega, by omega, HZ, rfl⟩
        · have hz : YtejlokdcocacaaaGreatDoor.u8 (s.data.toList.drop (i + 1)) 3 128 143 = V := by
            rw [← hv.out]
            have hft : Lib.firstT c.toNat = 68 := by
              unfold Lib.firstT
              repeat' split
              all_goals omega
            refine (u8_lead _ _ 2 128 143 (by omega) (by rw [hft]) (by rw [hft]; rfl) (by rw [hft]; rfl)).symm
          have q1 : ¬ ((c.toNat : Int) < 128) := by omega
          have q2 : 194 ≤ (c.toNat : Int) := by omega
          have q3 : ¬ ((c.toNat : Int) ≤ 223) := by omega
          have q4 : 224 ≤ (c.toNat : Int) := by omega
          have q5 : ¬ ((c.toNat : Int) ≤ 239) := by omega
          have q6 : 240 ≤ (c.toNat : Int) := by omega
          have q7 : (c.toNat : Int) ≤ 244 := by omega
          have q240 : ((c.toNat : Int) == 240) = false := by rw [beq_eq_false_iff_ne]; omega
          have q244 : ((c.toNat : Int) == 244) = true := by rw [beq_iff_eq]; omega
          have HZ := hid hz
          clear hz hv hd h
          go_wp2_with fail
          go_meet
          exact ⟨3, 128, 143, rfl, rfl, rfl, by omega, by omega, by omega, HZ, rfl⟩
        · have hf : V = false := by rw [← hv.out]; exact u8_bad _ _ h
          have hx1 : ¬ ((c.toNat : Int) < 128) := by omega
          have HF := hid hf
          clear hf hv hd
          rcases h with ⟨h1, h2⟩ | h1
          · have q1 : ¬ (194 ≤ (c.toNat : Int)) := by omega
            have q2 : ¬ (224 ≤ (c.toNat : Int)) := by omega
            have q3 : ¬ (240 ≤ (c.toNat : Int)) := by omega
            clear h1 h2
            go_wp2_with fail
            go_ret
            rw [HF.out]
            exact ⟨rfl, rfl⟩
          · have q1 : 194 ≤ (c.toNat : Int) := by omega
            have q1' : ¬ ((c.toNat : Int) ≤ 223) := by omega
            have q2 : 224 ≤ (c.toNat : Int) := by omega
            have q2' : ¬ ((c.toNat : Int) ≤ 239) := by omega
            have q3 : 240 ≤ (c.toNat : Int) := by omega
            have q3' : ¬ ((c.toNat : Int) ≤ 244) := by omega
            clear h1
            go_wp2_with fail
            go_ret
            rw [HF.out]
            exact ⟨rfl, rfl⟩
      case rest =>
        obtain ⟨n, lo, hi2, rfl, rfl, rfl, hn, hlo, hhi, HU, rfl⟩ := hcut
        clear hv hd hc hc1 hlt2
        go_wp2_with fail
        go_loopg [6, 7, 8] (n + 1) (fun gh u6 u7 u8 wx => ∃ k lo hi2 : Nat, gh + k = n + 2 ∧ 1 ≤ k ∧ k ≤ n + 1 ∧ i + k ≤ s.size ∧ u6 = .int .u8 lo ∧ u7 = .int .u8 hi2 ∧ u8 = .int .i64 k ∧ lo ≤ 255 ∧ hi2 ≤ 255 ∧ Hid (YtejlokdcocacaaaGreatDoor.u8 (s.data.toList.drop (i + k)) (n + 1 - k) lo hi2 = V) ∧ wx = wc)
        case atStart => exact ⟨1, lo, hi2, by omega, by omega, by omega, by omega, rfl, rfl, rfl, hlo, hhi, HU, rfl⟩
        case round =>
          obtain ⟨k, lo, hi2, hg, hk1, hk2, hik, rfl, rfl, rfl, hlo, hhi, hu, rfl⟩ := hrel
          clear HU
          by_cases hkn : k ≤ n
          · have t1 : (k : Int) ≤ (n : Int) := by omega
            by_cases hls : i + k < s.size
            · obtain ⟨b, hb⟩ : ∃ b, s[i + k] = b := ⟨_, rfl⟩
              have hd : s.data.toList.drop (i + k) = b :: s.data.toList.drop (i + k + 1) := by
                rw [List.drop_eq_getElem_cons (show i + k < s.data.toList.length from hls), ← at_list s (i + k) hls, hb]
              rw [hd, show n + 1 - k = (n - k) + 1 by omega, u8_cont] at hu
              have t2 : ¬ ((s.size : Int) ≤ (i : Int) + (k : Int)) := by omega
              have t3 : (i : Int) + (k : Int) < (s.size : Int) := by omega
              have hbi : s[i + k].toNat = b.toNat := by rw [hb]
              have hb1 := b.toNat_lt
              by_cases hbl : b.toNat < lo
              · have hf : V = false := by rw [← hu.out, if_neg (by omega)]
                have t4 : (b.toNat : Int) < (lo : Int) := by omega
                have HF := hid hf
                clear hf hu hd
                go_wp2_with fail
                go_ret
                rw [HF.out]
                exact ⟨rfl, rfl⟩
              · have t4 : ¬ (b.toNat : Int) < (lo : Int) := by omega
                have t4' : (lo : Int) ≤ (b.toNat : Int) := by omega
                by_cases hbh : hi2 < b.toNat
                · have hf : V = false := by rw [← hu.out, if_neg (by omega)]
                  have t5 : (hi2 : Int) < (b.toNat : Int) := by omega
                  have HF := hid hf
                  clear hf hu hd
                  go_wp2_with fail
                  go_ret
                  rw [HF.out]
                  exact ⟨rfl, rfl⟩
                · have hz : YtejlokdcocacaaaGreatDoor.u8 (s.data.toList.drop (i + (k + 1))) (n + 1 - (k + 1)) 128 191 = V := by
                    rw [← hu.out, if_pos (by omega), show n + 1 - (k + 1) = n - k by omega]
                    rfl
                  have t5 : ¬ (hi2 : Int) < (b.toNat : Int) := by omega
                  have t5' : (b.toNat : Int) ≤ (hi2 : Int) := by omega
                  have HZ := hid hz
                  clear hz hu hd
                  go_wp2_with fail
                  go_roundg (n + 1 - k)
                  case measure => omega
                  case rel => exact ⟨k + 1, 128, 191, by omega, by omega, by omega, by omega, rfl, rfl, by go_num, by omega, by omega, HZ, rfl⟩
            · have hf : V = false := by
                rw [← hu.out, List.drop_eq_nil_of_le (show s.data.toList.length ≤ i + k by show s.size ≤ i + k; omega), show n + 1 - k = (n - k) + 1 by omega]
                rfl
              have t2 : (s.size : Int) ≤ (i : Int) + (k : Int) := by omega
              have HF := hid hf
              clear hf hu
              go_wp2_with fail
              go_ret
              rw [HF.out]
              exact ⟨rfl, rfl⟩
          · obtain rfl : k = n + 1 := by omega
            have t1 : ¬ ((n + 1 : Nat) : Int) ≤ (n : Int) := by omega
            have hz : YtejlokdcocacaaaGreatDoor.u8 (s.data.toList.drop (i + (n + 1))) 0 0 0 = V := by
              rw [← hu.out, show n + 1 - (n + 1) = 0 by omega]
              exact u8_zero _ _ _ _ _
            have HZ := hid hz
            clear hz hu
            go_wp2_with fail
            go_roundg (s.size + 1 - (i + (n + 1)))
            case measure => omega
            case rel => exact ⟨i + (n + 1), by omega, by omega, by go_num, HZ, rfl⟩
    · have hf : V = true := by
        rw [← hv.out, List.drop_eq_nil_of_le (show s.data.toList.length ≤ i by show s.size ≤ i; omega)]
        rfl
      have hge : ¬ (i : Int) < (s.size : Int) := by omega
      have HF := hid hf
      clear hf hv
      go_wp2_with fail
      go_ret
      rw [HF.out]
      exact ⟨rfl, rfl⟩
end Go.Proofs.YtejlokdcocacaaaGreatDoor
