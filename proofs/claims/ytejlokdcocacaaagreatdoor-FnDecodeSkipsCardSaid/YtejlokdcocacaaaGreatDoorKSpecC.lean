/- The reference's end of a line. -/
import Derived.Test.YtejlokdcocacaaaGreatDoorKDecD
import Derived.Outline
import Derived.Test.YtejlokdcocacaaaGreatDoorKSpecB
import Derived.Test.YtejlokdcocacaaaGreatDoorKTok
import Derived.Deep.LoopGhost
namespace Go.Proofs.YtejlokdcocacaaaGreatDoor
open Go.RowKit

/-- An end of a line at the beginning of a text: how many bytes, and whether there is one. -/
def lineEnd : List UInt8 → Nat × Bool
  | [] => (0, true)
  | [c] => if c = 10 then (1, true) else if c = 13 then (1, true) else (0, false)
  | c :: d :: _ => if c = 10 then (1, true) else if c = 13 then (if d = 10 then (2, true) else (0, false)) else (0, false)

theorem size_list (s : ByteArray) : s.size = s.data.toList.length := rfl
theorem at_list (s : ByteArray) (k : Nat) (h : k < s.size) : s[k] = s.data.toList[k]'(by rw [← size_list]; exact h) := rfl

set_option maxHeartbeats 2000000 in
theorem lineEnd_spec (s : ByteArray) (hs : s.size ≤ 100000) (w : World) : Calls Tryz.prog 93 #[.string s] w fun e w' => e = .returned (.tuple #[.int .i64 ((lineEnd s.data.toList).1 : Int), .bool (lineEnd s.data.toList).2]) ∧ w' = w := by
  have hz := size_list s
  rcases hl : s.data.toList with _ | ⟨c, t⟩
  · have h1 : s.toList.isEmpty = true := by rw [ByteArray.toList_eq, hl]; rfl
    have h2 : s.toList = [] := by rw [ByteArray.toList_eq, hl]
    clear hl hz hs
    go_enter Tryz.func93, Tryz.ntmps93
    go_wp2
    go_ret2
    exact ⟨rfl, rfl⟩
  · have hp : 0 < s.size := by rw [hz, hl]; simp
    have h1 : s.toList.isEmpty = false := by rw [ByteArray.toList_eq, hl]; rfl
    have h2 : ¬ s.toList = [] := by rw [ByteArray.toList_eq, hl]; simp
    have h0 : s[0] = c := by rw [at_list s 0 hp]; simp [hl]
    rw [hl] at hz
    by_cases h10 : c = 10
    · have hx : lineEnd (c :: t) = (1, true) := by cases t <;> simp [lineEnd, h10]
      rw [hx]
      have e10 : ((s[0].toNat : Int) == 10) = true := by rw [h0, h10]; rfl
      clear hl hz hx h10 h0 hs
      go_enter Tryz.func93, Tryz.ntmps93
      go_wp2
      go_ret2
      exact ⟨rfl, rfl⟩
    have f10 : ((s[0].toNat : Int) == 10) = false := by rw [h0, ← Bool.not_eq_true]; exact fun e => h10 ((u8_eq _ 10 (by omega)).1 e)
    by_cases h13 : c = 13
    case neg =>
      have hx : lineEnd (c :: t) = (0, false) := by cases t <;> simp [lineEnd, h10, h13]
      rw [hx]
      have f13 : ((s[0].toNat : Int) != 13) = true := by rw [h0, bne_iff_ne]; exact fun e => h13 ((u8_eq _ 13 (by omega)).1 (by rw [beq_iff_eq]; exact e))
      clear hl hz hx h10 h13 h0 hs
      go_enter Tryz.func93, Tryz.ntmps93
      go_wp2
      go_ret2
      exact ⟨rfl, rfl⟩
    have f13 : ((s[0].toNat : Int) != 13) = false := by rw [h0, h13]; rfl
    cases t with
    | nil =>
      have hx : lineEnd [c] = (1, true) := by simp [lineEnd, h13]
      rw [hx]
      have hz1 : ((s.size : Int) == 1) = true := by rw [beq_iff_eq, hz]; rfl
      clear hl hz hx h10 h13 h0 hs
      go_enter Tryz.func93, Tryz.ntmps93
      go_wp2
      go_ret2
      exact ⟨rfl, rfl⟩
    | cons d r =>
      have hp1 : 1 < s.size := by rw [hz]; simp
      have hz1 : ((s.size : Int) == 1) = false := by rw [beq_eq_false_iff_ne]; omega
      have h1d : s[1] = d := by rw [at_list s 1 hp1]; simp [hl]
      by_cases hd : d = 10
      · have hx : lineEnd (c :: d :: r) = (2, true) := by simp [lineEnd, h13, hd]
        rw [hx]
        have g10 : ((s[1].toNat : Int) == 10) = true := by rw [h1d, hd]; rfl
        clear hl hz hx h10 h13 h0 hs h1d hd
        go_enter Tryz.func93, Tryz.ntmps93
        go_wp2
        go_ret2
        exact ⟨rfl, rfl⟩
      · have hx : lineEnd (c :: d :: r) = (0, false) := by simp [lineEnd, h13, hd]
        rw [hx]
        have g10 : ((s[1].toNat : Int) == 10) = false := by rw [h1d, ← Bool.not_eq_true]; exact fun e => hd ((u8_eq _ 10 (by omega)).1 e)
        clear hl hz hx h10 h13 h0 hs h1d hd
        go_enter Tryz.func93, Tryz.ntmps93
        go_wp2
        go_ret2
        exact ⟨rfl, rfl⟩
end Go.Proofs.YtejlokdcocacaaaGreatDoor

/- The reference's Token. -/
namespace Go.Proofs.YtejlokdcocacaaaGreatDoor
open Go.RowKit

theorem conv_own {w : World} {B : Nat} {v : Value} {P : List UInt8} (h : w.ownsRow B 5 1 v P.length (P.map byteV)) : (convert 69 9 v).run Tryz.prog w = .ok (.string ⟨P.toArray⟩) w := by
  by_cases hP : P = []
  · subst hP
    rcases h.2 with ⟨rfl, _⟩ | ⟨g, cap, cur, rfl, hb, hg, hcc, hm, _⟩
    · exact run_convert_bytes_nil w 69 5 Tryz.underlying69 Tryz.underlying5 0 0 9 Tryz.underlying9
    · exact run_bytes_string (l := []) ⟨g, 0, cap, rfl, Nat.zero_le _, hm, lt_of_block hg, fun i hi => by simp at hi⟩
  · exact run_bytes_string (bytes_own h (List.length_pos_iff.2 hP))

theorem OB.below {B : Nat} {v : Value} {n : Nat} {xs : List Value} {W0 w w' : World} (h : OB B v n xs W0 w) (k : Below w.heap.size w w') : OB B v n xs W0 w' := by
  obtain ⟨⟨h1, h2⟩, h3, h4⟩ := h
  refine ⟨⟨h1, ?_⟩, h3.trans (k.mono h4), Nat.le_trans h4 k.size⟩
  rcases h2 with h2 | ⟨g, cap, cur, hv, hb, hg, r⟩
  · exact .inl h2
  · exact .inr ⟨g, cap, cur, hv, hb, (k.block g (lt_of_block hg)).trans hg, r⟩

set_option maxHeartbeats 4000000 in
theorem token_spec {f : Nat → Bool} {g : Nat → Int} (k j : Int) (hesc : ∀ (x : Nat) (w : World), Calls Tryz.prog 154 #[.int .i64 k, .int .u8 (x : Int)] w (EscR g x w))
    (hset : ∀ w : World, Calls Tryz.prog 155 #[.int .i64 k] w fun e w' => e = .returned (.int .i64 j) ∧ Below w.heap.size w w')
    (hin : ∀ (x : Nat) (w : World), Calls Tryz.prog 92 #[.int .i64 j, .int .u8 (x : Int)] w fun e w' => e = .returned (.bool (f x)) ∧ w' = w)
    (hg : ∀ c, c < 256 → 0 ≤ g c ∧ g c < 256) (s : ByteArray) (hs : s.size ≤ 1000) (w : World) :
    Calls Tryz.prog 132 #[.int .i64 k, .string s] w fun e w' => e = .returned (.tuple #[.string ⟨(tok f g s.data.toList).2.toArray⟩, .int .i64 ((tok f g s.data.toList).1 : Int)]) ∧ Below w.heap.size w w' := by
  have HE := hid hesc; clear hesc
  have HSE := hid hset; clear hset
  have HIN := hid hin; clear hin
  have HG := hid hg; clear hg
  go_enter Tryz.func132, Tryz.ntmps132
  go_wp2_with fail
  go_loopg [5, 6] (s.size + 1) (fun gh u5 u6 wx => ∃ (i : Nat) (P : List UInt8), gh + i = s.size + 1 ∧ i ≤ s.size ∧ u5 = .int .i64 i ∧ Hid (TokAt f g s.data.toList i P) ∧ OB w.heap.size u6 P.length (P.map byteV) w wx ∧ P.length ≤ i)
  case atStart => exact ⟨0, [], by omega, Nat.zero_le _, rfl, hid (TokAt.zero _), ⟨World.ownsRow_nil _ _ _ _, Below.refl _ _, Nat.le_refl _⟩, Nat.le_refl _⟩
  case round =>
    obtain ⟨i, P, hgi, hi, rfl, hT, hOB, hP⟩ := hrel
    have HOB := hid hOB; clear hOB
    by_cases hlt : i < s.size
    · have hil : i < s.data.toList.length := hlt
      obtain ⟨c, hc⟩ : ∃ c, s.data.toList[i]'hil = c := ⟨_, rfl⟩
      have hsc : s[i] = c := hc
      have HC := hid hc; clear hc
      have hPl : P.length + 1 ≤ 100000000000000 := by omega
      have hap : ∀ (c : UInt8) (v : Value) (wx : World), OB w.heap.size v (P.length + 1) (P.map byteV ++ [.int .u8 (c.toNat : Int)]) w wx → OB w.heap.size v (P ++ [c]).length ((P ++ [c]).map byteV) w wx := fun c v wx h => by
        rw [List.length_append, List.map_append]; exact h
      have HAP := hid hap; clear hap
      by_cases h92 : c.toNat = 92
      · have e92 : ((s[i].toNat : Int) == 92) = true := by rw [hsc, h92]; rfl
        have H92 := hid h92; clear h92
        by_cases hend : i + 1 < s.size
        · have hil2 : i + 1 < s.data.toList.length := hend
          obtain ⟨d, hd⟩ : ∃ d, s.data.toList[i + 1]'hil2 = d := ⟨_, rfl⟩
          have hsd : s[i + 1] = d := hd
          have HD := hid hd; clear hd
          have hlt2 : (i : Int) + 1 < (s.size : Int) := by omega
          have hes := HE.out (s[i + 1]).toNat wr
          have HES := hid hes; clear hes
          have HSC := hid hsc; clear hsc
          have HSD := hid hsd; clear hsd
          by_cases hgz : g (s[i + 1]).toNat = 0
          · have hb : (g (s[i + 1]).toNat != 0) = false := by rw [hgz]; rfl
            have HGZ := hid hgz; clear hgz
            go_wp2_with fail
            refine HES.out.mono ?_
            rintro e w2 ⟨dv, rfl, _, rfl⟩
            rw [hb]
            clear hb
            go_wp2_with (at_builtin; refine app_byte rfl _ _ rfl w.heap.size u6 P.length (P.map byteV) rfl w wr _ HOB.out rfl hPl ?_; intro v' w' hOB2)
            have HOB2 := hid (HAP.out (s[i]) v' w' hOB2)
            clear hOB2
            go_roundg (s.size - i)
            case measure => omega
            case rel =>
              refine ⟨i + 1, P ++ [s[i]], by omega, by omega, by go_num, hid ?_, HOB2.out, by rw [List.length_append]; simp; omega⟩
              have := hT.out.held hil2 (by rw [HC.out]; exact H92.out) (by rw [HD.out, ← HSD.out]; exact HGZ.out)
              rw [HSC.out, ← HC.out]
              exact this
          · have hb : (g (s[i + 1]).toNat != 0) = true := by rw [bne_iff_ne]; exact hgz
            have hg1 := HG.out (s[i + 1]).toNat (s[i + 1]).toNat_lt
            have HGZ := hid hgz; clear hgz
            go_wp2_with fail
            refine HES.out.mono ?_
            rintro e w2 ⟨dv, rfl, hdv, rfl⟩
            rw [hb]
            obtain rfl : dv = g (s[i + 1]).toNat := hdv HGZ.out
            clear hb hdv
            obtain ⟨gv, hgv⟩ : ∃ gv, g (s[i + 1]).toNat = gv := ⟨_, rfl⟩
            rw [hgv] at hg1 ⊢
            have HGV := hid hgv; clear hgv
            go_wp2_with (at_builtin; refine app_byte rfl _ _ rfl w.heap.size u6 P.length (P.map byteV) rfl w wr _ HOB.out rfl hPl ?_; intro v' w' hOB2)
            have hgb : ((UInt8.ofNat gv.toNat).toNat : Int) = gv := by rw [UInt8.toNat_ofNat']; omega
            rw [← hgb] at hOB2
            have HOB2 := hid (HAP.out (UInt8.ofNat gv.toNat) v' w' hOB2)
            clear hOB2 hgb
            go_roundg (s.size - i - 1)
            case measure => omega
            case rel =>
              refine ⟨i + 2, P ++ [UInt8.ofNat gv.toNat], by omega, by omega, by go_num, hid ?_, HOB2.out, by rw [List.length_append]; simp; omega⟩
              have := hT.out.esc hil2 (by rw [HC.out]; exact H92.out) (by rw [HD.out, ← HSD.out]; exact HGZ.out)
              rw [HD.out, ← HSD.out, HGV.out] at this
              exact this
        · have hge : ¬ (i : Int) + 1 < (s.size : Int) := by omega
          have HSC := hid hsc; clear hsc
          go_wp2_with (at_builtin; refine app_byte rfl _ _ rfl w.heap.size u6 P.length (P.map byteV) rfl w wr _ HOB.out rfl hPl ?_; intro v' w' hOB2)
          have HOB2 := hid (HAP.out (s[i]) v' w' hOB2)
          clear hOB2
          go_roundg (s.size - i)
          case measure => omega
          case rel =>
            refine ⟨i + 1, P ++ [s[i]], by omega, by omega, by go_num, hid ?_, HOB2.out, by rw [List.length_append]; simp; omega⟩
            have := hT.out.atLast (show i + 1 = s.data.toList.length by rw [← size_list]; omega) (by rw [HC.out]; exact H92.out)
            rw [HSC.out, ← HC.out]
            exact this
      · have e92 : ((s[i].toNat : Int) == 92) = false := by rw [hsc, beq_eq_false_iff_ne]; omega
        have H92 := hid h92; clear h92
        have HSC := hid hsc; clear hsc
        obtain ⟨fc, hfc⟩ : ∃ fc, f (s[i]).toNat = fc := ⟨_, rfl⟩
        have HFC := hid hfc
        have hi3 := fun w => HIN.out (s[i]).toNat w
        rw [hfc] at hi3
        have HI3 := hid hi3; clear hi3 hfc
        go_wp2_with fail
        refine (HSE.out _).mono ?_
        rintro e w2 ⟨rfl, hbel⟩
        have HOB3 := hid (HOB.out.below hbel)
        clear hbel
        go_wp2_with fail
        refine (HI3.out _).mono ?_
        rintro e w3 ⟨rfl, rfl⟩
        cases fc
        · have hst := hT.out.stop hil (by rw [HC.out]; exact H92.out) (by rw [HC.out, ← HSC.out]; exact HFC.out)
          have HST := hid hst
          have hcv := conv_own HOB3.out.1
          clear hst
          go_wp2_with fail
          go_ret2
          rw [HST.out]
          exact ⟨rfl, HOB3.out.2.1⟩
        · go_wp2_with (at_builtin; refine app_byte rfl _ _ rfl w.heap.size u6 P.length (P.map byteV) rfl w w3 _ HOB3.out rfl hPl ?_; intro v' w' hOB2)
          have HOB2 := hid (HAP.out (s[i]) v' w' hOB2)
          clear hOB2
          go_roundg (s.size - i)
          case measure => omega
          case rel =>
            refine ⟨i + 1, P ++ [s[i]], by omega, by omega, by go_num, hid ?_, HOB2.out, by rw [List.length_append]; simp; omega⟩
            have := hT.out.plain hil (by rw [HC.out]; exact H92.out) (by rw [HC.out, ← HSC.out]; exact HFC.out)
            rw [HSC.out, ← HC.out]
            exact this
    · have hi' : i = s.size := by omega
      have hfin := hT.out.fin hi'
      have hcv := conv_own HOB.out.1
      have HFIN := hid hfin
      clear hfin hi'
      go_wp2_with fail
      go_ret2
      rw [HFIN.out]
      exact ⟨rfl, HOB.out.2.1⟩
end Go.Proofs.YtejlokdcocacaaaGreatDoor
