/- utf8.Valid at every slice of bytes: the answer is the library's validD. The walk after Derived/Shelf/Unicode/ValidAny.lean (strings), turned to slices by gen_utf.py. -/
import Derived.Test.YtejlokdcocacaaaGreatDoorKDecA
import Derived.BigQuiet
import Derived.Lib.ValidAsc
import Derived.Lib.EndianBits
import Derived.Laws.BitsAllLaws
import Derived.Deep.LoopGhost
import Derived.Deep.DeepMust
import Derived.Deep.DeepBigQuietO
import Derived.Deep.CutBlock
import Derived.Deep.DeepCutAuto
set_option linter.unusedVariables false
namespace Go.Proofs.YtejlokdcocacaaaGreatDoor
open Go.RowKit Go.Lib

theorem firstT_lib : firstT = Lib.firstT := rfl
theorem accLo_lib : accLo = Lib.accLo := rfl
theorem accHi_lib : accHi = Lib.accHi := rfl

theorem get!_lt' (s : ByteArray) (i : Nat) (h : i < s.size) : s.get! i = s[i] := by
  show s.data[i]! = s.data[i]'h
  exact getElem!_pos s.data i h

/-- These bytes lie there. -/
def At (w : World) (b o : Nat) (t : ByteArray) : Prop := b < w.heap.size ∧ ∀ i, i < t.size → w.cell? ⟨b, o + i, none⟩ = some (.int .u8 ((t.get! i).toNat : Int))

theorem At.below {w w' : World} {b o : Nat} {t : ByteArray} (h : At w b o t) (k : Below w.heap.size w w') : At w' b o t :=
  ⟨Nat.lt_of_lt_of_le h.1 k.size, fun i hi => (World.cell?_of_block (w := w) (a := ⟨b, o + i, none⟩) (k.block b h.1)).trans (h.2 i hi)⟩
theorem At.drewN {w : World} {b o : Nat} {t : ByteArray} (h : At w b o t) (n : Nat) : At (w.drewN n) b o t := h
theorem At.alloc {w : World} {b o : Nat} {t : ByteArray} (h : At w b o t) (x : Obj) : At (w.alloc x) b o t := h.below ((Below.refl _ _).alloc (Nat.le_refl _) x)
theorem At.ext {w : World} {b o : Nat} {t : ByteArray} (h : At w b o t) (k : Nat) : At w b (o + k) (t.extract k t.size) :=
  ⟨h.1, fun i hi => by
    rw [Lib.ext_size] at hi
    have h2 := h.2 (k + i) (by omega)
    have e : (t.extract k t.size).get! i = t.get! (k + i) := by
      rw [get!_lt' _ _ (by rw [Lib.ext_size]; omega), get!_lt' _ _ (by omega)]
      exact ByteArray.getElem_extract _
    rw [e, Nat.add_assoc]
    exact h2⟩

theorem below_drewNv {B : Nat} {a w : World} (h : Below B a w) : ∀ q, Below B a (w.drewN q)
  | 0 => h
  | q + 1 => (below_drewNv h q).drew
set_option maxRecDepth 100000 in
theorem and7 : ∀ X : Fin 256, bits .and .u8 ((X.val : Nat) : Int) 7 = ((X.val % 8 : Nat) : Int) := by decide

set_option maxHeartbeats 8000000 in
set_option maxRecDepth 100000 in
theorem word_any (s : ByteArray) (b o : Nat) (w : World) (hs : 8 ≤ s.size) (hat : At w b o s) (c : Nat) :
    Calls Tryz.prog 138 #[.slice (some ⟨b, o, none⟩) s.size c] w fun e w' => e = .returned (.int .u64 (Lib.leNat [s.get! 0, s.get! 1, s.get! 2, s.get! 3, s.get! 4, s.get! 5, s.get! 6, s.get! 7])) ∧ ∃ q, w' = w.drewN q := by
  obtain ⟨x0, hx0⟩ : ∃ x0, s.get! 0 = x0 := ⟨_, rfl⟩
  have hs0 : w.cell? ⟨b, o, none⟩ = some (.int .u8 ((s.get! 0).toNat : Int)) := hat.2 0 (by omega)
  rw [hx0] at hs0
  have h0 : x0.toNat < 256 := x0.toNat_lt
  obtain ⟨x1, hx1⟩ : ∃ x1, s.get! 1 = x1 := ⟨_, rfl⟩
  have hs1 := hat.2 1 (by omega)
  rw [hx1] at hs1
  have h1 : x1.toNat < 256 := x1.toNat_lt
  obtain ⟨x2, hx2⟩ : ∃ x2, s.get! 2 = x2 := ⟨_, rfl⟩
  have hs2 := hat.2 2 (by omega)
  rw [hx2] at hs2
  have h2 : x2.toNat < 256 := x2.toNat_lt
  obtain ⟨x3, hx3⟩ : ∃ x3, s.get! 3 = x3 := ⟨_, rfl⟩
  have hs3 := hat.2 3 (by omega)
  rw [hx3] at hs3
  have h3 : x3.toNat < 256 := x3.toNat_lt
  obtain ⟨x4, hx4⟩ : ∃ x4, s.get! 4 = x4 := ⟨_, rfl⟩
  have hs4 := hat.2 4 (by omega)
  rw [hx4] at hs4
  have h4 : x4.toNat < 256 := x4.toNat_lt
  obtain ⟨x5, hx5⟩ : ∃ x5, s.get! 5 = x5 := ⟨_, rfl⟩
  have hs5 := hat.2 5 (by omega)
  rw [hx5] at hs5
  have h5 : x5.toNat < 256 := x5.toNat_lt
  obtain ⟨x6, hx6⟩ : ∃ x6, s.get! 6 = x6 := ⟨_, rfl⟩
  have hs6 := hat.2 6 (by omega)
  rw [hx6] at hs6
  have h6 : x6.toNat < 256 := x6.toNat_lt
  obtain ⟨x7, hx7⟩ : ∃ x7, s.get! 7 = x7 := ⟨_, rfl⟩
  have hs7 := hat.2 7 (by omega)
  rw [hx7] at hs7
  have h7 : x7.toNat < 256 := x7.toNat_lt
  rw [hx0, hx1, hx2, hx3, hx4, hx5, hx6, hx7]
  have hv : ((Lib.leNat [x0, x1, x2, x3, x4, x5, x6, x7] : Nat) : Int) = (x0.toNat : Int) + (x1.toNat : Int) * 256 + (x2.toNat : Int) * 65536 + (x3.toNat : Int) * 16777216 + (x4.toNat : Int) * 4294967296 + (x5.toNat : Int) * 1099511627776 + (x6.toNat : Int) * 281474976710656 + (x7.toNat : Int) * 72057594037927936 := by
    simp only [Lib.leNat]
    push_cast
    omega
  have q0 : (0 : Int) < (s.size : Int) := by omega
  have p0 : 0 < s.size := by omega
  have q1 : (1 : Int) < (s.size : Int) := by omega
  have p1 : 1 < s.size := by omega
  have q2 : (2 : Int) < (s.size : Int) := by omega
  have p2 : 2 < s.size := by omega
  have q3 : (3 : Int) < (s.size : Int) := by omega
  have p3 : 3 < s.size := by omega
  have q4 : (4 : Int) < (s.size : Int) := by omega
  have p4 : 4 < s.size := by omega
  have q5 : (5 : Int) < (s.size : Int) := by omega
  have p5 : 5 < s.size := by omega
  have q6 : (6 : Int) < (s.size : Int) := by omega
  have p6 : 6 < s.size := by omega
  have q7 : (7 : Int) < (s.size : Int) := by omega
  have p7 : 7 < s.size := by omega
  clear hat
  go_enter Tryz.func138, Tryz.ntmps138
  go_wp2
  go_quiet (fail)
  go_wp2
  go_ret
  refine ⟨?_, _, rfl⟩
  simp (disch := omega) only [u64_or8, u64_or16, u64_or24, u64_or32, u64_or40, u64_or48, u64_or56]
  rw [hv]
  rfl

theorem lt_of_cell? {w : World} {a : Addr} {v : Value} (h : w.cell? a = some v) : a.block < w.heap.size := by
  rcases hb : w.heap[a.block]? with _ | o
  · unfold World.cell? at h; rw [hb] at h; simp at h
  · exact lt_of_block hb

theorem At.none {w : World} {b o : Nat} {t u : ByteArray} (h : At w b o t) (hu : u.size = 0) : At w b o u := ⟨h.1, fun i hi => absurd hi (by omega)⟩

theorem slice_of {b o n m c d : Nat} (h1 : n = m) (h2 : c = d) : Value.slice (some ⟨b, o, none⟩) n c = .slice (some ⟨b, o, none⟩) m d := by rw [h1, h2]

set_option maxHeartbeats 16000000 in
set_option maxRecDepth 1000000 in
theorem valid_any (s : ByteArray) (b o c0 : Nat) (w : World) (hs : s.size ≤ 100000) (hc0 : s.size ≤ c0) (hat : At w b o s) (hT : Tabs w) :
    Calls Tryz.prog 101 #[.slice (some ⟨b, o, none⟩) s.size c0] w fun e w' => e = .returned (.bool (Lib.validD s.data.toList)) ∧ Below w.heap.size w w' := by
  have hB3 : 3 < w.heap.size := by
    have := hT.lo 0 (by omega)
    exact lt_of_cell? this
  obtain ⟨ANS, hANS⟩ : ∃ ANS, Lib.validD s.data.toList = ANS := ⟨_, rfl⟩
  rw [hANS]
  have HAT := hid hat; clear hat
  have HT := hid hT; clear hT
  have hs0 : (0 : Int) ≤ (s.size : Int) := by omega
  have hs1 : (s.size : Int) ≤ (c0 : Int) := by omega
  have hs2 : (s.size : Int) ≤ (s.size : Int) := by omega
  go_enter Tryz.func101, Tryz.ntmps101
  go_wp2
  go_loopg [0] (s.size + 1) (fun gk s0 wx => Below w.heap.size w wx ∧ ∃ (t : ByteArray) (o : Nat), s0 = .slice (some ⟨b, o, none⟩) t.size t.size ∧ At w b o t ∧ Lib.validD t.data.toList = ANS ∧ t.size < gk ∧ t.size ≤ 100000)
  case atStart => exact ⟨Below.refl _ _, s, o, rfl, HAT.out, hANS, by omega, hs⟩
  case round =>
    obtain ⟨hbw, t, o, rfl, hat, hv, hg, hts⟩ := hrel
    clear hANS HAT hs0 hs1 hs2 hc0
    have hTr := HT.out.keep (hbw.block 2 (by omega)) (hbw.block 3 hB3)
    have hr := hat.below hbw
    have HR := hid hr; clear hr
    have HAT := hid hat; clear hat
    by_cases h0 : 0 < t.size
    · obtain ⟨g', rfl⟩ : ∃ g', gk = g' + 1 := ⟨gk - 1, by omega⟩
      have h0z : (0 : Int) < (t.size : Int) := by omega
      obtain ⟨x0, hx0⟩ : ∃ x0, t.get! 0 = x0 := ⟨_, rfl⟩
      have hs0 : wr.cell? ⟨b, o, none⟩ = some (.int .u8 ((t.get! 0).toNat : Int)) := HR.out.2 0 (by omega)
      rw [hx0] at hs0
      have hx0lt : x0.toNat < 256 := x0.toNat_lt
      by_cases hasc : x0.toNat < 128
      · as_aux_lemma =>
          have hascz : (x0.toNat : Int) < 128 := by omega
          have a1 : Lib.Asc t 1 := Lib.asc_one t h0 (by rw [hx0]; exact hasc)
          obtain ⟨t1, ht1⟩ : ∃ t1, t.extract 1 t.size = t1 := ⟨_, rfl⟩
          have z1 : t1.size + 1 = t.size := by rw [← ht1, Lib.ext_size]; omega
          have v1 : Lib.validD t1.data.toList = ANS := by rw [← ht1, Lib.valid_skip t 1 a1]; exact hv
          clear hTr hv a1
          by_cases k1 : t.size = 1
          · go_wp2
            go_roundg g'
            case measure => omega
            case rel => exact ⟨hbw, t1, o, slice_of (by omega) (by omega), HAT.out.none (by omega), v1, by omega, by omega⟩
          have e1 : t.size - 1 = t1.size := by omega
          have at1 : At w b (o + 1) t1 := ht1 ▸ HAT.out.ext 1
          obtain ⟨o1, ho1⟩ : ∃ o1, o + 1 = o1 := ⟨_, rfl⟩
          rw [ho1] at at1
          have AT1 := hid at1; clear at1 ht1 HAT HR
          by_cases c8 : 8 < t1.size
          · have c8z : (8 : Int) < (t1.size : Int) := by omega
            obtain ⟨A1, hA1⟩ : ∃ A1, Lib.leNat [t1.get! 0, t1.get! 1, t1.get! 2, t1.get! 3, t1.get! 4, t1.get! 5, t1.get! 6, t1.get! 7] = A1 := ⟨_, rfl⟩
            have lA1 : A1 < 18446744073709551616 := hA1 ▸ Lib.word_lt t1
            have cW1 : ∀ W, At W b o1 t1 → Calls Tryz.prog 138 #[.slice (some ⟨b, o1, none⟩) t1.size t1.size] W fun e w' => e = .returned (.int .u64 A1) ∧ ∃ q, w' = W.drewN q := fun W hW => by rw [← hA1]; exact word_any t1 b _ W (by omega) hW _
            have kA1 := Lib.word_asc t1 (by omega)
            rw [hA1] at kA1
            have hand1 : bits .and .u64 (A1 : Int) 9259542123273814144 = ((A1 &&& 9259542123273814144 : Nat) : Int) := u64_and_nat A1 9259542123273814144 lA1 (by omega)
            obtain ⟨Z1, hZ1⟩ : ∃ Z1, A1 &&& 9259542123273814144 = Z1 := ⟨_, rfl⟩
            rw [hZ1] at hand1 kA1
            by_cases hz1 : Z1 = 0
            · have hz1b : ((Z1 : Int) == 0) = true := by simp [hz1]
              have a8 : Lib.Asc t1 8 := kA1.1 hz1
              obtain ⟨t2, ht2⟩ : ∃ t2, t1.extract 8 t1.size = t2 := ⟨_, rfl⟩
              have z2 : t2.size + 8 = t1.size := by rw [← ht2, Lib.ext_size]; omega
              have e2 : t1.size - 8 = t2.size := by omega
              have n2 : ¬ t1.size = 8 := by omega
              have at2 : At w b (o1 + 8) t2 := ht2 ▸ AT1.out.ext 8
              obtain ⟨o2, ho2⟩ : ∃ o2, o1 + 8 = o2 := ⟨_, rfl⟩
              rw [ho2] at at2
              have AT2 := hid at2; clear at2
              have HT2 := hid ht2; clear ht2
              have v2 : Lib.validD t2.data.toList = ANS := by rw [← HT2.out, Lib.valid_skip t1 8 a8]; exact v1
              clear kA1 a8 v1
              go_wp2_with (go_at_call 138; go_must (refine (cW1 _ (AT1.out.below hbw)).mono ?_; rintro e W1 ⟨rfl, q1, rfl⟩))
              have hb1 : Below w.heap.size w (wr.drewN q1) := below_drewNv hbw q1
              generalize wr.drewN q1 = wq at hb1 ⊢
              clear cW1 hbw
              by_cases c16 : 16 < t2.size
              · have c16z : (16 : Int) < (t2.size : Int) := by omega
                have s8z : (8 : Int) ≤ (t2.size : Int) := by omega
                obtain ⟨t2b, ht2b⟩ : ∃ t2b, t2.extract 8 t2.size = t2b := ⟨_, rfl⟩
                have z2b : t2b.size + 8 = t2.size := by rw [← ht2b, Lib.ext_size]; omega
                have e2b : t2.size - 8 = t2b.size := by omega
                have n2b : ¬ t2.size = 8 := by omega
                have at2b : At w b (o2 + 8) t2b := ht2b ▸ AT2.out.ext 8
                obtain ⟨o2b, ho2b⟩ : ∃ o2b, o2 + 8 = o2b := ⟨_, rfl⟩
                rw [ho2b] at at2b
                have AT2b := hid at2b; clear at2b
                have HT2b := hid ht2b; clear ht2b
                have atq := AT2.out.below hb1
                have ATq := hid atq; clear atq
                have atqb := AT2b.out.below hb1
                have ATqb := hid atqb; clear atqb
                obtain ⟨A2, hA2⟩ : ∃ A2, Lib.leNat [t2.get! 0, t2.get! 1, t2.get! 2, t2.get! 3, t2.get! 4, t2.get! 5, t2.get! 6, t2.get! 7] = A2 := ⟨_, rfl⟩
                have lA2 : A2 < 18446744073709551616 := hA2 ▸ Lib.word_lt t2
                have cW2 : ∀ W, At W b o2 t2 → Calls Tryz.prog 138 #[.slice (some ⟨b, o2, none⟩) t2.size t2.size] W fun e w' => e = .returned (.int .u64 A2) ∧ ∃ q, w' = W.drewN q := fun W hW => by rw [← hA2]; exact word_any t2 b _ W (by omega) hW _
                have kA2 := Lib.word_asc t2 (by omega)
                rw [hA2] at kA2
                obtain ⟨A3, hA3⟩ : ∃ A3, Lib.leNat [t2b.get! 0, t2b.get! 1, t2b.get! 2, t2b.get! 3, t2b.get! 4, t2b.get! 5, t2b.get! 6, t2b.get! 7] = A3 := ⟨_, rfl⟩
                have lA3 : A3 < 18446744073709551616 := hA3 ▸ Lib.word_lt t2b
                have cW3 : ∀ W, At W b o2b t2b → Calls Tryz.prog 138 #[.slice (some ⟨b, o2b, none⟩) t2b.size t2b.size] W fun e w' => e = .returned (.int .u64 A3) ∧ ∃ q, w' = W.drewN q := fun W hW => by rw [← hA3]; exact word_any t2b b _ W (by omega) hW _
                have kA3 := Lib.word_asc t2b (by omega)
                rw [hA3] at kA3
                have hor2 : bits .or .u64 (A2 : Int) (A3 : Int) = ((A2 ||| A3 : Nat) : Int) := u64_or_nat A2 A3 lA2 lA3
                have lor2 : A2 ||| A3 < 18446744073709551616 := Nat.or_lt_two_pow (n := 64) lA2 lA3
                have hand2 : bits .and .u64 ((A2 ||| A3 : Nat) : Int) 9259542123273814144 = (((A2 ||| A3) &&& 9259542123273814144 : Nat) : Int) := u64_and_nat _ 9259542123273814144 lor2 (by omega)
                have k2 : (A2 ||| A3) &&& 9259542123273814144 = 0 → Lib.Asc t2 16 := fun h0' => by
                  obtain ⟨e1', e2'⟩ := (Lib.or_mask A2 A3 _).1 h0'
                  exact Lib.asc_add t2 8 8 (kA2.1 e1') (by rw [HT2b.out]; exact kA3.1 e2')
                obtain ⟨O2, hO2⟩ : ∃ O2, A2 ||| A3 = O2 := ⟨_, rfl⟩
                rw [hO2] at hor2 hand2 k2
                obtain ⟨Z2, hZ2⟩ : ∃ Z2, O2 &&& 9259542123273814144 = Z2 := ⟨_, rfl⟩
                rw [hZ2] at hand2 k2
                clear kA2 kA3 lor2 hO2 hZ2
                by_cases hz2 : Z2 = 0
                · have hz2b : ((Z2 : Int) == 0) = true := by simp [hz2]
                  have a16 := k2 hz2
                  obtain ⟨t3, ht3⟩ : ∃ t3, t2.extract 16 t2.size = t3 := ⟨_, rfl⟩
                  have z3 : t3.size + 16 = t2.size := by rw [← ht3, Lib.ext_size]; omega
                  have e3 : t2.size - 16 = t3.size := by omega
                  have n3 : ¬ t2.size = 16 := by omega
                  have at3 : At w b (o2 + 16) t3 := ht3 ▸ AT2.out.ext 16
                  obtain ⟨o3, ho3⟩ : ∃ o3, o2 + 16 = o3 := ⟨_, rfl⟩
                  rw [ho3] at at3
                  have AT3 := hid at3; clear at3
                  have HT3 := hid ht3; clear ht3
                  have v3 : Lib.validD t3.data.toList = ANS := by rw [← HT3.out, Lib.valid_skip t2 16 a16]; exact v2
                  clear k2 a16 v2
                  go_big_quiet (first | (go_at_call 138; with_reducible exact Calls.quiet_of (cW2 _ (ATq.out.drewN _))) | (go_at_call 138; with_reducible exact Calls.quiet_of (cW3 _ (ATqb.out.drewN _))))
                  have hb2 : Below w.heap.size w (wq.drewN nq) := below_drewNv hb1 nq
                  generalize wq.drewN nq = wq2 at hb2 ⊢
                  clear cW2 cW3 hb1
                  go_wp2
                  -- ████ 32 bytes a round
                  go_loopg [0] (t3.size + 1) (fun g2 s0 wx => Below w.heap.size w wx ∧ ∃ (u : ByteArray) (p : Nat), s0 = .slice (some ⟨b, p, none⟩) u.size u.size ∧ At w b p u ∧ Lib.validD u.data.toList = ANS ∧ u.size < g2 ∧ u.size ≤ t3.size)
                  case atStart => exact ⟨hb2, t3, o3, rfl, AT3.out, v3, by omega, Nat.le_refl _⟩
                  case round =>
                    obtain ⟨hbu, u, p, rfl, hatu, vu, hgu, hut⟩ := hrel
                    have ATU := hid hatu; clear hatu
                    by_cases c32 : 32 < u.size
                    · obtain ⟨g3, rfl⟩ : ∃ g3, gk = g3 + 1 := ⟨gk - 1, by omega⟩
                      have c32z : (32 : Int) < (u.size : Int) := by omega
                      have s8u : (8 : Int) ≤ (u.size : Int) := by omega
                      have s16u : (16 : Int) ≤ (u.size : Int) := by omega
                      have s24u : (24 : Int) ≤ (u.size : Int) := by omega
                      obtain ⟨ub, hub⟩ : ∃ ub, u.extract 8 u.size = ub := ⟨_, rfl⟩
                      have zub : ub.size + 8 = u.size := by rw [← hub, Lib.ext_size]; omega
                      have eub : u.size - 8 = ub.size := by omega
                      have nub : ¬ u.size = 8 := by omega
                      have atub : At w b (p + 8) ub := hub ▸ ATU.out.ext 8
                      obtain ⟨pb, hpb⟩ : ∃ pb, p + 8 = pb := ⟨_, rfl⟩
                      rw [hpb] at atub
                      replace atub := atub.below hbu
                      have ATub := hid atub; clear atub
                      have Hub := hid hub; clear hub
                      obtain ⟨uc, huc⟩ : ∃ uc, u.extract 16 u.size = uc := ⟨_, rfl⟩
                      have zuc : uc.size + 16 = u.size := by rw [← huc, Lib.ext_size]; omega
                      have euc : u.size - 16 = uc.size := by omega
                      have nuc : ¬ u.size = 16 := by omega
                      have atuc : At w b (p + 16) uc := huc ▸ ATU.out.ext 16
                      obtain ⟨pc, hpc⟩ : ∃ pc, p + 16 = pc := ⟨_, rfl⟩
                      rw [hpc] at atuc
                      replace atuc := atuc.below hbu
                      have ATuc := hid atuc; clear atuc
                      have Huc := hid huc; clear huc
                      obtain ⟨ud, hud⟩ : ∃ ud, u.extract 24 u.size = ud := ⟨_, rfl⟩
                      have zud : ud.size + 24 = u.size := by rw [← hud, Lib.ext_size]; omega
                      have eud : u.size - 24 = ud.size := by omega
                      have nud : ¬ u.size = 24 := by omega
                      have atud : At w b (p + 24) ud := hud ▸ ATU.out.ext 24
                      obtain ⟨pd, hpd⟩ : ∃ pd, p + 24 = pd := ⟨_, rfl⟩
                      rw [hpd] at atud
                      replace atud := atud.below hbu
                      have ATud := hid atud; clear atud
                      have Hud := hid hud; clear hud
                      have atu := ATU.out.below hbu
                      have ATu := hid atu; clear atu
                      obtain ⟨B0, hB0⟩ : ∃ B0, Lib.leNat [u.get! 0, u.get! 1, u.get! 2, u.get! 3, u.get! 4, u.get! 5, u.get! 6, u.get! 7] = B0 := ⟨_, rfl⟩
                      have lB0 : B0 < 18446744073709551616 := hB0 ▸ Lib.word_lt u
                      have cB0 : ∀ W, At W b p u → Calls Tryz.prog 138 #[.slice (some ⟨b, p, none⟩) u.size u.size] W fun e w' => e = .returned (.int .u64 B0) ∧ ∃ q, w' = W.drewN q := fun W hW => by rw [← hB0]; exact word_any u b _ W (by omega) hW _
                      have kB0 := Lib.word_asc u (by omega)
                      rw [hB0] at kB0
                      obtain ⟨B1, hB1⟩ : ∃ B1, Lib.leNat [ub.get! 0, ub.get! 1, ub.get! 2, ub.get! 3, ub.get! 4, ub.get! 5, ub.get! 6, ub.get! 7] = B1 := ⟨_, rfl⟩
                      have lB1 : B1 < 18446744073709551616 := hB1 ▸ Lib.word_lt ub
                      have cB1 : ∀ W, At W b pb ub → Calls Tryz.prog 138 #[.slice (some ⟨b, pb, none⟩) ub.size ub.size] W fun e w' => e = .returned (.int .u64 B1) ∧ ∃ q, w' = W.drewN q := fun W hW => by rw [← hB1]; exact word_any ub b _ W (by omega) hW _
                      have kB1 := Lib.word_asc ub (by omega)
                      rw [hB1] at kB1
                      obtain ⟨B2, hB2⟩ : ∃ B2, Lib.leNat [uc.get! 0, uc.get! 1, uc.get! 2, uc.get! 3, uc.get! 4, uc.get! 5, uc.get! 6, uc.get! 7] = B2 := ⟨_, rfl⟩
                      have lB2 : B2 < 18446744073709551616 := hB2 ▸ Lib.word_lt uc
                      have cB2 : ∀ W, At W b pc uc → Calls Tryz.prog 138 #[.slice (some ⟨b, pc, none⟩) uc.size uc.size] W fun e w' => e = .returned (.int .u64 B2) ∧ ∃ q, w' = W.drewN q := fun W hW => by rw [← hB2]; exact word_any uc b _ W (by omega) hW _
                      have kB2 := Lib.word_asc uc (by omega)
                      rw [hB2] at kB2
                      obtain ⟨B3, hB3⟩ : ∃ B3, Lib.leNat [ud.get! 0, ud.get! 1, ud.get! 2, ud.get! 3, ud.get! 4, ud.get! 5, ud.get! 6, ud.get! 7] = B3 := ⟨_, rfl⟩
                      have lB3 : B3 < 18446744073709551616 := hB3 ▸ Lib.word_lt ud
                      have cB3 : ∀ W, At W b pd ud → Calls Tryz.prog 138 #[.slice (some ⟨b, pd, none⟩) ud.size ud.size] W fun e w' => e = .returned (.int .u64 B3) ∧ ∃ q, w' = W.drewN q := fun W hW => by rw [← hB3]; exact word_any ud b _ W (by omega) hW _
                      have kB3 := Lib.word_asc ud (by omega)
                      rw [hB3] at kB3
                      have ho1 : bits .or .u64 (B0 : Int) (B1 : Int) = ((B0 ||| B1 : Nat) : Int) := u64_or_nat B0 B1 lB0 lB1
                      have ho2 : bits .or .u64 (B2 : Int) (B3 : Int) = ((B2 ||| B3 : Nat) : Int) := u64_or_nat B2 B3 lB2 lB3
                      have lo1 : B0 ||| B1 < 18446744073709551616 := Nat.or_lt_two_pow (n := 64) lB0 lB1
                      have lo2 : B2 ||| B3 < 18446744073709551616 := Nat.or_lt_two_pow (n := 64) lB2 lB3
                      have ho3 : bits .or .u64 ((B0 ||| B1 : Nat) : Int) ((B2 ||| B3 : Nat) : Int) = (((B0 ||| B1) ||| (B2 ||| B3) : Nat) : Int) := u64_or_nat _ _ lo1 lo2
                      have lo3 : (B0 ||| B1) ||| (B2 ||| B3) < 18446744073709551616 := Nat.or_lt_two_pow (n := 64) lo1 lo2
                      have hand3 : bits .and .u64 (((B0 ||| B1) ||| (B2 ||| B3) : Nat) : Int) 9259542123273814144 = ((((B0 ||| B1) ||| (B2 ||| B3)) &&& 9259542123273814144 : Nat) : Int) := u64_and_nat _ 9259542123273814144 lo3 (by omega)
                      have k3 : ((B0 ||| B1) ||| (B2 ||| B3)) &&& 9259542123273814144 = 0 → Lib.Asc u 32 := fun h0' => by
                        obtain ⟨e01, e23⟩ := (Lib.or_mask _ _ _).1 h0'
                        obtain ⟨e0, e1⟩ := (Lib.or_mask _ _ _).1 e01
                        obtain ⟨e2, e3⟩ := (Lib.or_mask _ _ _).1 e23
                        have s16 : Lib.Asc u 16 := Lib.asc_add u 8 8 (kB0.1 e0) (by rw [Hub.out]; exact kB1.1 e1)
                        have s24 : Lib.Asc u 24 := Lib.asc_add u 16 8 s16 (by rw [Huc.out]; exact kB2.1 e2)
                        exact Lib.asc_add u 24 8 s24 (by rw [Hud.out]; exact kB3.1 e3)
                      obtain ⟨P1, hP1⟩ : ∃ P1, B0 ||| B1 = P1 := ⟨_, rfl⟩
                      obtain ⟨P2, hP2⟩ : ∃ P2, B2 ||| B3 = P2 := ⟨_, rfl⟩
                      rw [hP1, hP2] at ho3 hand3 k3
                      rw [hP1] at ho1
                      rw [hP2] at ho2
                      obtain ⟨P3, hP3⟩ : ∃ P3, P1 ||| P2 = P3 := ⟨_, rfl⟩
                      rw [hP3] at ho3 hand3 k3
                      obtain ⟨Z3, hZ3⟩ : ∃ Z3, P3 &&& 9259542123273814144 = Z3 := ⟨_, rfl⟩
                      rw [hZ3] at hand3 k3
                      clear kB0 kB1 kB2 kB3 lo1 lo2 lo3 hP1 hP2 hP3 hZ3
                      by_cases hz3 : Z3 = 0
                      · have hz3b : ((Z3 : Int) == 0) = true := by simp [hz3]
                        have a32 := k3 hz3
                        obtain ⟨u2, hu2⟩ : ∃ u2, u.extract 32 u.size = u2 := ⟨_, rfl⟩
                        have zu2 : u2.size + 32 = u.size := by rw [← hu2, Lib.ext_size]; omega
                        have eu2 : u.size - 32 = u2.size := by omega
                        have nu2 : ¬ u.size = 32 := by omega
                        have atu2 : At w b (p + 32) u2 := hu2 ▸ ATU.out.ext 32
                        obtain ⟨p2, hp2⟩ : ∃ p2, p + 32 = p2 := ⟨_, rfl⟩
                        rw [hp2] at atu2
                        have ATu2 := hid atu2; clear atu2
                        have HU2 := hid hu2; clear hu2
                        have vu2 : Lib.validD u2.data.toList = ANS := by rw [← HU2.out, Lib.valid_skip u 32 a32]; exact vu
                        go_wp2_with fail
                        go_big_quiet (first | (go_at_call 138; with_reducible exact Calls.quiet_of (cB0 _ (ATu.out.drewN _))) | (go_at_call 138; with_reducible exact Calls.quiet_of (cB1 _ (ATub.out.drewN _))) | (go_at_call 138; with_reducible exact Calls.quiet_of (cB2 _ (ATuc.out.drewN _))) | (go_at_call 138; with_reducible exact Calls.quiet_of (cB3 _ (ATud.out.drewN _))))
                        go_wp2
                        go_roundg g3
                        case measure => omega
                        case rel => exact ⟨below_drewNv hbu nq, u2, p2, rfl, ATu2.out, vu2, by omega, by omega⟩
                      · have hz3b : ((Z3 : Int) == 0) = false := by simp; omega
                        go_wp2_with fail
                        go_big_quiet (first | (go_at_call 138; with_reducible exact Calls.quiet_of (cB0 _ (ATu.out.drewN _))) | (go_at_call 138; with_reducible exact Calls.quiet_of (cB1 _ (ATub.out.drewN _))) | (go_at_call 138; with_reducible exact Calls.quiet_of (cB2 _ (ATuc.out.drewN _))) | (go_at_call 138; with_reducible exact Calls.quiet_of (cB3 _ (ATud.out.drewN _))))
                        go_wp2
                        go_roundg g'
                        case measure => omega
                        case rel => exact ⟨below_drewNv hbu nq, u, p, rfl, ATU.out, vu, by omega, by omega⟩
                    · have c32z : ¬ ((32 : Int) < (u.size : Int)) := by omega
                      have c32b : decide ((32 : Int) < (u.size : Int)) = false := decide_eq_false c32z
                      go_wp2_with fail
                      go_big_quiet (fail)
                      go_wp2
                      go_roundg g'
                      case measure => omega
                      case rel => exact ⟨below_drewNv hbu nq, u, p, rfl, ATU.out, vu, by omega, by omega⟩
                · have hz2b : ((Z2 : Int) == 0) = false := by simp; omega
                  go_big_quiet (first | (go_at_call 138; with_reducible exact Calls.quiet_of (cW2 _ (ATq.out.drewN _))) | (go_at_call 138; with_reducible exact Calls.quiet_of (cW3 _ (ATqb.out.drewN _))))
                  go_wp2
                  go_roundg g'
                  case measure => omega
                  case rel => exact ⟨below_drewNv hb1 nq, t2, o2, rfl, AT2.out, v2, by omega, by omega⟩
              · have c16z : ¬ ((16 : Int) < (t2.size : Int)) := by omega
                have c16b : decide ((16 : Int) < (t2.size : Int)) = false := decide_eq_false c16z
                go_big_quiet (fail)
                go_wp2
                go_roundg g'
                case measure => omega
                case rel => exact ⟨below_drewNv hb1 nq, t2, o2, rfl, AT2.out, v2, by omega, by omega⟩
            · have hz1b : ((Z1 : Int) == 0) = false := by simp; omega
              go_wp2_with (go_at_call 138; go_must (refine (cW1 _ (AT1.out.below hbw)).mono ?_; rintro e W1 ⟨rfl, q1, rfl⟩))
              go_roundg g'
              case measure => omega
              case rel => exact ⟨below_drewNv hbw q1, t1, o1, rfl, AT1.out, v1, by omega, by omega⟩
          · have c8z : ¬ ((8 : Int) < (t1.size : Int)) := by omega
            go_wp2
            go_roundg g'
            case measure => omega
            case rel => exact ⟨hbw, t1, o1, rfl, AT1.out, v1, by omega, by omega⟩
      · as_aux_lemma =>
          have hge : 128 ≤ x0.toNat := by omega
          have hascz : ¬ ((x0.toNat : Int) < 128) := by omega
          obtain ⟨x1, hx1⟩ : ∃ x1, t.get! 1 = x1 := ⟨_, rfl⟩
          obtain ⟨x2, hx2⟩ : ∃ x2, t.get! 2 = x2 := ⟨_, rfl⟩
          obtain ⟨x3, hx3⟩ : ∃ x3, t.get! 3 = x3 := ⟨_, rfl⟩
          have l1 := x1.toNat_lt; have l2 := x2.toNat_lt; have l3 := x3.toNat_lt
          have hne : t.data.toList ≠ [] := fun h => by rw [Lib.size_eq, h] at h0; simp at h0
          have hlead := Lib.validD_lead t.data.toList hne (by rw [Lib.getD_get!', hx0]; exact hge)
          rw [Lib.getD_get!', Lib.getD_get!', Lib.getD_get!', Lib.getD_get!', hx0, hx1, hx2, hx3, ← Lib.size_eq, hv] at hlead
          have hc0 := hTr.first x0.toNat hx0lt
          rw [firstT_lib] at hc0
          have hXlt : Lib.firstT x0.toNat < 256 := by rcases Lib.firstT_cases x0.toNat with h | h | h | h | h | h | h | h | h <;> omega
          obtain ⟨X, hX⟩ : ∃ X, Lib.firstT x0.toNat = X := ⟨_, rfl⟩
          rw [hX] at hc0 hXlt hlead
          have h7 := and7 ⟨X, hXlt⟩
          simp only at h7
          have ha0 : wr.cell? ⟨3, X / 16 * 2, none⟩ = some (.int .u8 (Lib.accLo (X / 16))) := by rw [Nat.mul_comm]; exact hTr.lo (X / 16) (by omega)
          have ha1 : wr.cell? ⟨3, X / 16 * 2 + 1, none⟩ = some (.int .u8 (Lib.accHi (X / 16))) := by rw [Nat.mul_comm]; exact hTr.hi (X / 16) (by omega)
          obtain ⟨LO, hLO⟩ : ∃ LO, Lib.accLo (X / 16) = LO := ⟨_, rfl⟩
          obtain ⟨HI, hHI⟩ : ∃ HI, Lib.accHi (X / 16) = HI := ⟨_, rfl⟩
          rw [hLO] at ha0 hlead
          rw [hHI] at ha1 hlead
          obtain ⟨SZ, hSZ⟩ : ∃ SZ, X % 8 = SZ := ⟨_, rfl⟩
          rw [hSZ] at hlead
          clear hTr hX hv hLO hHI hne
          have HLEAD := hid hlead; clear hlead
          by_cases s2 : SZ = 2
          · as_aux_lemma =>
              subst s2
              have hSZz : (X : Int) % 8 = 2 := by omega
              have hlead := HLEAD.out; clear HLEAD
              simp only [Lib.checkN, Nat.reduceEqDiff, if_true, if_false] at hlead
              have HLEAD := hid hlead; clear hlead
              go_upto_region 18 with fail
              go_cut [103] from 85 to 103 (fun c wx => c = .bool (decide (t.size < 2 ∨ x1.toNat < LO ∨ HI < x1.toNat)) ∧ Below w.heap.size w wx)
              case first =>
                as_aux_lemma =>
                  by_cases q0 : t.size < 2
                  · have q0z : (t.size : Int) < 2 := by omega
                    go_big_quiet (fail)
                    go_wp2
                    go_meet
                    exact ⟨congrArg Value.bool (decide_eq_true (p := t.size < 2 ∨ x1.toNat < LO ∨ HI < x1.toNat) (by omega)).symm, below_drewNv (hbw.alloc hbw.size _) _⟩
                  · have q0z : ¬ ((t.size : Int) < 2) := by omega
                    have hz1 : (1 : Int) < (t.size : Int) := by omega
                    have hp1 : 1 < t.size := by omega
                    have hs1 := (HR.out.alloc (Obj.cells #[Value.int IntKind.u8 (LO : Int), Value.int IntKind.u8 (HI : Int)] 192)).2 1 (by omega)
                    rw [hx1] at hs1
                    by_cases q1 : x1.toNat < LO
                    · have q1z : (x1.toNat : Int) < (LO : Int) := by omega
                      go_big_quiet (fail)
                      go_wp2
                      go_meet
                      exact ⟨congrArg Value.bool (decide_eq_true (p := t.size < 2 ∨ x1.toNat < LO ∨ HI < x1.toNat) (by omega)).symm, below_drewNv (hbw.alloc hbw.size _) _⟩
                    · have q1z : ¬ ((x1.toNat : Int) < (LO : Int)) := by omega
                      by_cases q2 : HI < x1.toNat
                      · have q2z : (HI : Int) < (x1.toNat : Int) := by omega
                        go_big_quiet (fail)
                        go_wp2
                        go_meet
                        exact ⟨congrArg Value.bool (decide_eq_true (p := t.size < 2 ∨ x1.toNat < LO ∨ HI < x1.toNat) (by omega)).symm, below_drewNv (hbw.alloc hbw.size _) _⟩
                      · have q2z : ¬ ((HI : Int) < (x1.toNat : Int)) := by omega
                        go_big_quiet (fail)
                        go_wp2
                        go_meet
                        exact ⟨congrArg Value.bool (decide_eq_false (p := t.size < 2 ∨ x1.toNat < LO ∨ HI < x1.toNat) (by omega)).symm, below_drewNv (hbw.alloc hbw.size _) _⟩
              case rest =>
                obtain ⟨rfl, hbc⟩ := hcut
                by_cases hb : t.size < 2 ∨ x1.toNat < LO ∨ HI < x1.toNat
                · have hbd : decide (t.size < 2 ∨ x1.toNat < LO ∨ HI < x1.toNat) = true := decide_eq_true hb
                  have hlead := HLEAD.out; clear HLEAD
                  rw [if_pos hb] at hlead
                  have HLEAD := hid hlead; clear hlead
                  go_wp2
                  all_goals (go_ret; exact ⟨by first | rfl | (rw [HLEAD.out]; rfl), hbc⟩)
                · have hbd : decide (t.size < 2 ∨ x1.toNat < LO ∨ HI < x1.toNat) = false := decide_eq_false hb
                  have hlead := HLEAD.out; clear HLEAD
                  rw [if_neg hb] at hlead
                  have HLEAD := hid hlead; clear hlead
                  by_cases k2 : t.size = 2
                  · go_wp2
                    go_roundg g'
                    case measure => omega
                    case rel => exact ⟨hbc, t.extract 2 t.size, o, slice_of (by rw [Lib.ext_size]; omega) (by rw [Lib.ext_size]; omega), HAT.out.none (by rw [Lib.ext_size]; omega), by rw [Lib.ext_list, HLEAD.out], by rw [Lib.ext_size]; omega, by rw [Lib.ext_size]; omega⟩
                  · have k3 : (2 : Int) ≤ (t.size : Int) := by omega
                    go_wp2
                    go_roundg g'
                    case measure => omega
                    case rel => exact ⟨hbc, t.extract 2 t.size, o + 2, slice_of (by rw [Lib.ext_size]) (by rw [Lib.ext_size]), HAT.out.ext 2, by rw [Lib.ext_list, HLEAD.out], by rw [Lib.ext_size]; omega, by rw [Lib.ext_size]; omega⟩
          by_cases s3 : SZ = 3
          · as_aux_lemma =>
              subst s3
              have hSZz : (X : Int) % 8 = 3 := by omega
              have hlead := HLEAD.out; clear HLEAD
              simp only [Lib.checkN, Nat.reduceEqDiff, if_true, if_false] at hlead
              have HLEAD := hid hlead; clear hlead
              go_upto_region 22 with fail
              go_cut [138] from 108 to 138 (fun c wx => c = .bool (decide (t.size < 3 ∨ x1.toNat < LO ∨ HI < x1.toNat ∨ x2.toNat < 128 ∨ 191 < x2.toNat)) ∧ Below w.heap.size w wx)
              case first =>
                as_aux_lemma =>
                  by_cases q0 : t.size < 3
                  · have q0z : (t.size : Int) < 3 := by omega
                    go_big_quiet (fail)
                    go_wp2
                    go_meet
                    exact ⟨congrArg Value.bool (decide_eq_true (p := t.size < 3 ∨ x1.toNat < LO ∨ HI < x1.toNat ∨ x2.toNat < 128 ∨ 191 < x2.toNat) (by omega)).symm, below_drewNv (hbw.alloc hbw.size _) _⟩
                  · have q0z : ¬ ((t.size : Int) < 3) := by omega
                    have hz1 : (1 : Int) < (t.size : Int) := by omega
                    have hp1 : 1 < t.size := by omega
                    have hs1 := (HR.out.alloc (Obj.cells #[Value.int IntKind.u8 (LO : Int), Value.int IntKind.u8 (HI : Int)] 192)).2 1 (by omega)
                    rw [hx1] at hs1
                    have hz2 : (2 : Int) < (t.size : Int) := by omega
                    have hp2 : 2 < t.size := by omega
                    have hs2 := (HR.out.alloc (Obj.cells #[Value.int IntKind.u8 (LO : Int), Value.int IntKind.u8 (HI : Int)] 192)).2 2 (by omega)
                    rw [hx2] at hs2
                    by_cases q1 : x1.toNat < LO
                    · have q1z : (x1.toNat : Int) < (LO : Int) := by omega
                      go_big_quiet (fail)
                      go_wp2
                      go_meet
                      exact ⟨congrArg Value.bool (decide_eq_true (p := t.size < 3 ∨ x1.toNat < LO ∨ HI < x1.toNat ∨ x2.toNat < 128 ∨ 191 < x2.toNat) (by omega)).symm, below_drewNv (hbw.alloc hbw.size _) _⟩
                    · have q1z : ¬ ((x1.toNat : Int) < (LO : Int)) := by omega
                      by_cases q2 : HI < x1.toNat
                      · have q2z : (HI : Int) < (x1.toNat : Int) := by omega
                        go_big_quiet (fail)
                        go_wp2
                        go_meet
                        exact ⟨congrArg Value.bool (decide_eq_true (p := t.size < 3 ∨ x1.toNat < LO ∨ HI < x1.toNat ∨ x2.toNat < 128 ∨ 191 < x2.toNat) (by omega)).symm, below_drewNv (hbw.alloc hbw.size _) _⟩
                      · have q2z : ¬ ((HI : Int) < (x1.toNat : Int)) := by omega
                        by_cases q3 : x2.toNat < 128
                        · have q3z : (x2.toNat : Int) < 128 := by omega
                          go_big_quiet (fail)
                          go_wp2
                          go_meet
                          exact ⟨congrArg Value.bool (decide_eq_true (p := t.size < 3 ∨ x1.toNat < LO ∨ HI < x1.toNat ∨ x2.toNat < 128 ∨ 191 < x2.toNat) (by omega)).symm, below_drewNv (hbw.alloc hbw.size _) _⟩
                        · have q3z : ¬ ((x2.toNat : Int) < 128) := by omega
                          by_cases q4 : 191 < x2.toNat
                          · have q4z : (191 : Int) < (x2.toNat : Int) := by omega
                            go_big_quiet (fail)
                            go_wp2
                            go_meet
                            exact ⟨congrArg Value.bool (decide_eq_true (p := t.size < 3 ∨ x1.toNat < LO ∨ HI < x1.toNat ∨ x2.toNat < 128 ∨ 191 < x2.toNat) (by omega)).symm, below_drewNv (hbw.alloc hbw.size _) _⟩
                          · have q4z : ¬ ((191 : Int) < (x2.toNat : Int)) := by omega
                            go_big_quiet (fail)
                            go_wp2
                            go_meet
                            exact ⟨congrArg Value.bool (decide_eq_false (p := t.size < 3 ∨ x1.toNat < LO ∨ HI < x1.toNat ∨ x2.toNat < 128 ∨ 191 < x2.toNat) (by omega)).symm, below_drewNv (hbw.alloc hbw.size _) _⟩
              case rest =>
                obtain ⟨rfl, hbc⟩ := hcut
                by_cases hb : t.size < 3 ∨ x1.toNat < LO ∨ HI < x1.toNat ∨ x2.toNat < 128 ∨ 191 < x2.toNat
                · have hbd : decide (t.size < 3 ∨ x1.toNat < LO ∨ HI < x1.toNat ∨ x2.toNat < 128 ∨ 191 < x2.toNat) = true := decide_eq_true hb
                  have hlead := HLEAD.out; clear HLEAD
                  rw [if_pos hb] at hlead
                  have HLEAD := hid hlead; clear hlead
                  go_wp2
                  all_goals (go_ret; exact ⟨by first | rfl | (rw [HLEAD.out]; rfl), hbc⟩)
                · have hbd : decide (t.size < 3 ∨ x1.toNat < LO ∨ HI < x1.toNat ∨ x2.toNat < 128 ∨ 191 < x2.toNat) = false := decide_eq_false hb
                  have hlead := HLEAD.out; clear HLEAD
                  rw [if_neg hb] at hlead
                  have HLEAD := hid hlead; clear hlead
                  by_cases k2 : t.size = 3
                  · go_wp2
                    go_roundg g'
                    case measure => omega
                    case rel => exact ⟨hbc, t.extract 3 t.size, o, slice_of (by rw [Lib.ext_size]; omega) (by rw [Lib.ext_size]; omega), HAT.out.none (by rw [Lib.ext_size]; omega), by rw [Lib.ext_list, HLEAD.out], by rw [Lib.ext_size]; omega, by rw [Lib.ext_size]; omega⟩
                  · have k3 : (3 : Int) ≤ (t.size : Int) := by omega
                    go_wp2
                    go_roundg g'
                    case measure => omega
                    case rel => exact ⟨hbc, t.extract 3 t.size, o + 3, slice_of (by rw [Lib.ext_size]) (by rw [Lib.ext_size]), HAT.out.ext 3, by rw [Lib.ext_list, HLEAD.out], by rw [Lib.ext_size]; omega, by rw [Lib.ext_size]; omega⟩
          by_cases s4 : SZ = 4
          · as_aux_lemma =>
              subst s4
              have hSZz : (X : Int) % 8 = 4 := by omega
              have hlead := HLEAD.out; clear HLEAD
              simp only [Lib.checkN, Nat.reduceEqDiff, if_true, if_false] at hlead
              have HLEAD := hid hlead; clear hlead
              go_upto_region 26 with fail
              go_cut [185] from 143 to 185 (fun c wx => c = .bool (decide (t.size < 4 ∨ x1.toNat < LO ∨ HI < x1.toNat ∨ x2.toNat < 128 ∨ 191 < x2.toNat ∨ x3.toNat < 128 ∨ 191 < x3.toNat)) ∧ Below w.heap.size w wx)
              case first =>
                as_aux_lemma =>
                  by_cases q0 : t.size < 4
                  · have q0z : (t.size : Int) < 4 := by omega
                    go_big_quiet (fail)
                    go_wp2
                    go_meet
                    exact ⟨congrArg Value.bool (decide_eq_true (p := t.size < 4 ∨ x1.toNat < LO ∨ HI < x1.toNat ∨ x2.toNat < 128 ∨ 191 < x2.toNat ∨ x3.toNat < 128 ∨ 191 < x3.toNat) (by omega)).symm, below_drewNv (hbw.alloc hbw.size _) _⟩
                  · have q0z : ¬ ((t.size : Int) < 4) := by omega
                    have hz1 : (1 : Int) < (t.size : Int) := by omega
                    have hp1 : 1 < t.size := by omega
                    have hs1 := (HR.out.alloc (Obj.cells #[Value.int IntKind.u8 (LO : Int), Value.int IntKind.u8 (HI : Int)] 192)).2 1 (by omega)
                    rw [hx1] at hs1
                    have hz2 : (2 : Int) < (t.size : Int) := by omega
                    have hp2 : 2 < t.size := by omega
                    have hs2 := (HR.out.alloc (Obj.cells #[Value.int IntKind.u8 (LO : Int), Value.int IntKind.u8 (HI : Int)] 192)).2 2 (by omega)
                    rw [hx2] at hs2
                    have hz3 : (3 : Int) < (t.size : Int) := by omega
                    have hp3 : 3 < t.size := by omega
                    have hs3 := (HR.out.alloc (Obj.cells #[Value.int IntKind.u8 (LO : Int), Value.int IntKind.u8 (HI : Int)] 192)).2 3 (by omega)
                    rw [hx3] at hs3
                    by_cases q1 : x1.toNat < LO
                    · have q1z : (x1.toNat : Int) < (LO : Int) := by omega
                      go_big_quiet (fail)
                      go_wp2
                      go_meet
                      exact ⟨congrArg Value.bool (decide_eq_true (p := t.size < 4 ∨ x1.toNat < LO ∨ HI < x1.toNat ∨ x2.toNat < 128 ∨ 191 < x2.toNat ∨ x3.toNat < 128 ∨ 191 < x3.toNat) (by omega)).symm, below_drewNv (hbw.alloc hbw.size _) _⟩
                    · have q1z : ¬ ((x1.toNat : Int) < (LO : Int)) := by omega
                      by_cases q2 : HI < x1.toNat
                      · have q2z : (HI : Int) < (x1.toNat : Int) := by omega
                        go_big_quiet (fail)
                        go_wp2
                        go_meet
                        exact ⟨congrArg Value.bool (decide_eq_true (p := t.size < 4 ∨ x1.toNat < LO ∨ HI < x1.toNat ∨ x2.toNat < 128 ∨ 191 < x2.toNat ∨ x3.toNat < 128 ∨ 191 < x3.toNat) (by omega)).symm, below_drewNv (hbw.alloc hbw.size _) _⟩
                      · have q2z : ¬ ((HI : Int) < (x1.toNat : Int)) := by omega
                        by_cases q3 : x2.toNat < 128
                        · have q3z : (x2.toNat : Int) < 128 := by omega
                          go_big_quiet (fail)
                          go_wp2
                          go_meet
                          exact ⟨congrArg Value.bool (decide_eq_true (p := t.size < 4 ∨ x1.toNat < LO ∨ HI < x1.toNat ∨ x2.toNat < 128 ∨ 191 < x2.toNat ∨ x3.toNat < 128 ∨ 191 < x3.toNat) (by omega)).symm, below_drewNv (hbw.alloc hbw.size _) _⟩
                        · have q3z : ¬ ((x2.toNat : Int) < 128) := by omega
                          by_cases q4 : 191 < x2.toNat
                          · have q4z : (191 : Int) < (x2.toNat : Int) := by omega
                            go_big_quiet (fail)
                            go_wp2
                            go_meet
                            exact ⟨congrArg Value.bool (decide_eq_true (p := t.size < 4 ∨ x1.toNat < LO ∨ HI < x1.toNat ∨ x2.toNat < 128 ∨ 191 < x2.toNat ∨ x3.toNat < 128 ∨ 191 < x3.toNat) (by omega)).symm, below_drewNv (hbw.alloc hbw.size _) _⟩
                          · have q4z : ¬ ((191 : Int) < (x2.toNat : Int)) := by omega
                            by_cases q5 : x3.toNat < 128
                            · have q5z : (x3.toNat : Int) < 128 := by omega
                              go_big_quiet (fail)
                              go_wp2
                              go_meet
                              exact ⟨congrArg Value.bool (decide_eq_true (p := t.size < 4 ∨ x1.toNat < LO ∨ HI < x1.toNat ∨ x2.toNat < 128 ∨ 191 < x2.toNat ∨ x3.toNat < 128 ∨ 191 < x3.toNat) (by omega)).symm, below_drewNv (hbw.alloc hbw.size _) _⟩
                            · have q5z : ¬ ((x3.toNat : Int) < 128) := by omega
                              by_cases q6 : 191 < x3.toNat
                              · have q6z : (191 : Int) < (x3.toNat : Int) := by omega
                                go_big_quiet (fail)
                                go_wp2
                                go_meet
                                exact ⟨congrArg Value.bool (decide_eq_true (p := t.size < 4 ∨ x1.toNat < LO ∨ HI < x1.toNat ∨ x2.toNat < 128 ∨ 191 < x2.toNat ∨ x3.toNat < 128 ∨ 191 < x3.toNat) (by omega)).symm, below_drewNv (hbw.alloc hbw.size _) _⟩
                              · have q6z : ¬ ((191 : Int) < (x3.toNat : Int)) := by omega
                                go_big_quiet (fail)
                                go_wp2
                                go_meet
                                exact ⟨congrArg Value.bool (decide_eq_false (p := t.size < 4 ∨ x1.toNat < LO ∨ HI < x1.toNat ∨ x2.toNat < 128 ∨ 191 < x2.toNat ∨ x3.toNat < 128 ∨ 191 < x3.toNat) (by omega)).symm, below_drewNv (hbw.alloc hbw.size _) _⟩
              case rest =>
                obtain ⟨rfl, hbc⟩ := hcut
                by_cases hb : t.size < 4 ∨ x1.toNat < LO ∨ HI < x1.toNat ∨ x2.toNat < 128 ∨ 191 < x2.toNat ∨ x3.toNat < 128 ∨ 191 < x3.toNat
                · have hbd : decide (t.size < 4 ∨ x1.toNat < LO ∨ HI < x1.toNat ∨ x2.toNat < 128 ∨ 191 < x2.toNat ∨ x3.toNat < 128 ∨ 191 < x3.toNat) = true := decide_eq_true hb
                  have hlead := HLEAD.out; clear HLEAD
                  rw [if_pos hb] at hlead
                  have HLEAD := hid hlead; clear hlead
                  go_wp2
                  all_goals (go_ret; exact ⟨by first | rfl | (rw [HLEAD.out]; rfl), hbc⟩)
                · have hbd : decide (t.size < 4 ∨ x1.toNat < LO ∨ HI < x1.toNat ∨ x2.toNat < 128 ∨ 191 < x2.toNat ∨ x3.toNat < 128 ∨ 191 < x3.toNat) = false := decide_eq_false hb
                  have hlead := HLEAD.out; clear HLEAD
                  rw [if_neg hb] at hlead
                  have HLEAD := hid hlead; clear hlead
                  by_cases k2 : t.size = 4
                  · go_wp2
                    go_roundg g'
                    case measure => omega
                    case rel => exact ⟨hbc, t.extract 4 t.size, o, slice_of (by rw [Lib.ext_size]; omega) (by rw [Lib.ext_size]; omega), HAT.out.none (by rw [Lib.ext_size]; omega), by rw [Lib.ext_list, HLEAD.out], by rw [Lib.ext_size]; omega, by rw [Lib.ext_size]; omega⟩
                  · have k3 : (4 : Int) ≤ (t.size : Int) := by omega
                    go_wp2
                    go_roundg g'
                    case measure => omega
                    case rel => exact ⟨hbc, t.extract 4 t.size, o + 4, slice_of (by rw [Lib.ext_size]) (by rw [Lib.ext_size]), HAT.out.ext 4, by rw [Lib.ext_list, HLEAD.out], by rw [Lib.ext_size]; omega, by rw [Lib.ext_size]; omega⟩
          · -- 'default: return false'
            have e2 : ¬ ((X : Int) % 8 = 2) := by omega
            have e3 : ¬ ((X : Int) % 8 = 3) := by omega
            have e4 : ¬ ((X : Int) % 8 = 4) := by omega
            have e2b : (((X : Int) % 8) == 2) = false := by simp; omega
            have e3b : (((X : Int) % 8) == 3) = false := by simp; omega
            have e4b : (((X : Int) % 8) == 4) = false := by simp; omega
            have hlead := HLEAD.out; clear HLEAD
            simp only [Lib.checkN, s2, s3, s4, if_false] at hlead
            have HLEAD := hid hlead; clear hlead
            go_wp2
            all_goals (go_ret; exact ⟨by first | rfl | (rw [HLEAD.out]; rfl), hbw.alloc hbw.size _⟩)
    · have h0z : ¬ ((0 : Int) < (t.size : Int)) := by omega
      have ht0 : t.data.toList = [] := List.eq_nil_of_length_eq_zero (by rw [← Lib.size_eq]; omega)
      rw [ht0, Lib.validD_nil] at hv
      subst hv
      go_wp2
      go_ret
      exact ⟨rfl, hbw⟩

end Go.Proofs.YtejlokdcocacaaaGreatDoor
