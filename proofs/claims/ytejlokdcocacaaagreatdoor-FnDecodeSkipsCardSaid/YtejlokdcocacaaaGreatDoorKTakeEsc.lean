/- takeEsc: a token with escapes, taken. -/
import Derived.Test.YtejlokdcocacaaaGreatDoorKApp
import Derived.Lib.ValidU
import Derived.Test.YtejlokdcocacaaaGreatDoorKUtf
import Derived.Deep.CutBlock
import Derived.Deep.AppendLies
import Derived.Test.YtejlokdcocacaaaGreatDoorKReg
import Derived.Outline
import Derived.Laws.BitsLemmas
import Derived.Deep.DeepCutAuto
namespace Go.Proofs.YtejlokdcocacaaaGreatDoor
open Go.RowKit Go.Proofs.YtejlokdcocacaaaGreatDoorW.PrintLast

/-- The state behind a token: f: its bytes; g: its escapes. -/
def DSt.took (s : DSt) (f : Nat → Bool) (g : Nat → Int) (sk : Bool) : DSt :=
  { s with r1 := s.r1 + (tok f g s.rest).1, esc := if sk = true ∨ (tok f g s.rest).2.length = (tok f g s.rest).1 then s.esc else s.esc ++ (tok f g s.rest).2,
           line := if f 10 = true then s.line + (cntB (s.rest.take (tok f g s.rest).1) 10 : Int) else s.line }

/-- What a token says. -/
def DSt.said (s : DSt) (f : Nat → Bool) (g : Nat → Int) (sk : Bool) : List UInt8 := if sk = true then s.rest.take (tok f g s.rest).1 else (tok f g s.rest).2

/-- The value lies in the text, or among the bytes that are unescaped. -/
def Lies (T E n : Nat) (v : Value) : Prop := ∃ b o k c, v = .slice (some ⟨b, o, none⟩) k c ∧ (b = T ∨ b = E ∧ o + k ≤ n)

/-- What takeEsc hands back. -/
def TookIs (B T : Nat) (s : DSt) (f : Nat → Bool) (g : Nat → Int) (sk : Bool) (w : World) (E : Nat) (v : Value) : Prop :=
  if Lib.validD (s.said f g sk) = true then ∃ v1, v = .tuple #[v1, .int .i64 (s.r1 - s.r0 : Int), .nilIface] ∧ BytesIs w v1 (s.said f g sk) ∧ Lies T E (s.took f g sk).esc.length v1
  else ∃ v1 v3, v = .tuple #[v1, .int .i64 (s.r1 - s.r0 : Int), v3] ∧ ErrIs B ((s.took f g sk).flt (s.r1 - s.r0)) w v3

/-- The state behind takeEsc. -/
def DSt.afterEsc (s : DSt) (f : Nat → Bool) (g : Nat → Int) (sk : Bool) : DSt := if Lib.validD (s.said f g sk) = true then s.took f g sk else (s.took f g sk).broke

/-- Where the loops end. -/
def MidE (B D T E : Nat) (sk : Bool) (s : DSt) (f : Nat → Bool) (g : Nat → Int) (w : World) (u10 : Value) (wx : World) : Prop :=
  ∃ (k : Nat) (U : List UInt8) (E' : Nat), u10 = .int .i64 ((s.r1 : Int) - (s.r0 : Int) + (k : Int)) ∧ TS f g s.rest sk (tok f g s.rest).1 k (tok f g s.rest).2 U ∧
    Rep wx B D T E' sk { s with r1 := s.r1 + (tok f g s.rest).1, esc := s.esc ++ U } ∧ Stw s.esc.length D E w E' wx

/-- A piece of the text, as cells. -/
theorem seg_news {w : World} {B D T E : Nat} {sk : Bool} {s : DSt} (H : Rep w B D T E sk s) (lo hh : Nat) (h2 : hh ≤ s.t.length) : ∀ (j : Nat) (u : Value), (((s.t.take hh).drop lo).map byteV)[j]? = some u → w.cell? ((⟨T, lo, none⟩ : Addr).add j) = some u := fun j u hu => by
  rw [Addr.add_lit]
  rw [List.getElem?_map, List.getElem?_drop, List.getElem?_take] at hu
  split at hu
  · rename_i hlt
    have h3 := H.byte (lo + j) (by omega)
    rw [List.getElem?_eq_getElem (show lo + j < s.t.length by omega)] at hu
    simp [byteV] at hu
    rw [h3, ← hu]
  · simp at hu

theorem seg_one (l : List UInt8) : ∀ u ∈ l.map byteV, u.oneCell' = true := fun u hu => by
  obtain ⟨c, _, rfl⟩ := List.mem_map.1 hu
  rfl

theorem byteV_of {rc : Int} (h0 : 0 ≤ rc) (h1 : rc < 256) : [Value.int .u8 rc] = [UInt8.ofNat rc.toNat].map byteV := by
  have : ((UInt8.ofNat rc.toNat).toNat : Int) = rc := by rw [UInt8.toNat_ofNat']; omega
  simp only [List.map_cons, List.map_nil, byteV, this]

theorem piece_eq (s : DSt) (i k : Nat) : (s.t.take (s.r1 + i)).drop (s.r1 + k) = (s.rest.take i).drop k := by
  unfold DSt.rest
  rw [List.take_drop, List.drop_drop]

theorem Stw.alloc {w : World} {B D T E : Nat} {sk : Bool} {s : DSt} (H : Rep w B D T E sk s) (o : Obj) {n : Nat} : Stw n D E w E (w.alloc o) :=
  ((Stp.refl D E w).alloc o).weak n H.lt.2.2.1 H.DE

/-- Where the inner loop stands at byte i. -/
def InE (B D T E : Nat) (sk : Bool) (s : DSt) (f : Nat → Bool) (g : Nat → Int) (w : World) (i : Nat) (u10 : Value) (wx : World) : Prop :=
  ∃ (k : Nat) (P U : List UInt8) (E' : Nat), u10 = .int .i64 ((s.r1 : Int) - (s.r0 : Int) + (k : Int)) ∧ TS f g s.rest sk i k P U ∧
    Rep wx B D T E' sk { s with esc := s.esc ++ U } ∧ Stw s.esc.length D E w E' wx

theorem rest_len (s : DSt) : s.rest.length = s.t.length - s.r1 := by simp [DSt.rest]
theorem rest_at (s : DSt) (i : Nat) (h : i < s.rest.length) : s.rest[i] = s.t[s.r1 + i]'(by rw [rest_len] at h; omega) := by simp [DSt.rest]

theorem Stw.drewN {n D E E' : Nat} {a b : World} (h : Stw n D E a E' b) (m : Nat) : Stw n D E a E' (b.drewN m) := ⟨h.os, h.tape, h.output, h.size, h.block, h.esc, h.inE, h.keep⟩
theorem Stw.setD {n D E E' : Nat} {a b : World} (h : Stw n D E a E' b) (hDE : D ≠ E) (o : Nat) (v : Value) : Stw n D E a E' (b.setCell ⟨D, o, none⟩ v) :=
  ⟨h.os, h.tape, h.output, by have := h.size; simp [World.setCell]; omega, fun k hk hd he => by rw [Below.heap_setCell _ _ _ _ hd]; exact h.block k hk hd he, h.esc, h.inE, fun i hi => by
    rw [World.cell?_of_block (w := b) (a := ⟨E, i, none⟩) (heap_setCell_other b _ E _ (fun e => hDE e.symm)), h.keep i hi]⟩

theorem InE.drewN {B D T E : Nat} {sk : Bool} {s : DSt} {f : Nat → Bool} {g : Nat → Int} {w wx : World} {i : Nat} {u10 : Value} (h : InE B D T E sk s f g w i u10 wx) (m : Nat) : InE B D T E sk s f g w i u10 (wx.drewN m) := by
  obtain ⟨k, P, U, E', h1, h2, h3, h4⟩ := h
  exact ⟨k, P, U, E', h1, h2, h3.drewN m, h4.drewN m⟩

/-- The loops' end, with the reading place set. -/
theorem InE.mid {B D T E : Nat} {sk : Bool} {s : DSt} {f : Nat → Bool} {g : Nat → Int} {w wx : World} {i : Nat} {u10 : Value} (h : InE B D T E sk s f g w i u10 wx) (ht : (tok f g s.rest).1 = i) (hi : i ≤ s.rest.length) (h0 : s.r0 ≤ s.r1) (hDE : D ≠ E) {x : Int} (hx : x = (s.r1 : Int) + (i : Int)) (h1 : s.r1 ≤ s.t.length) :
    MidE B D T E sk s f g w u10 (wx.setCell ⟨D, 3, none⟩ (.int .i64 x)) := by
  obtain ⟨k, P, U, E', hu, hts, hr, hs⟩ := h
  have hl := rest_len s
  have hP : (tok f g s.rest).2 = P := by
    have := hts.tk.2
    have h3 : (tok f g (s.rest.drop i)).1 = 0 := by rw [this] at ht; simp at ht; exact ht
    have h4 := (tok_le f g _ (s.rest.drop i) (Nat.le_refl _)).2
    rw [h3] at h4
    have h5 : (tok f g (s.rest.drop i)).2 = [] := List.eq_nil_of_length_eq_zero (by omega)
    rw [this]; simp [h5]
  refine ⟨k, U, E', hu, by rw [ht, hP]; exact hts, ?_, hs.setD hDE _ _⟩
  have := hr.setR1 (s.r1 + i) (by show s.r0 ≤ s.r1 + i; omega) (by show s.r1 + i ≤ s.t.length; omega)
  rw [hx, ht]
  simpa using this

/-- The loops' end, where nothing is left. -/
theorem InE.mid0 {B D T E : Nat} {sk : Bool} {s : DSt} {f : Nat → Bool} {g : Nat → Int} {w wx : World} {u10 : Value} (h : InE B D T E sk s f g w 0 u10 wx) (ht : (tok f g s.rest).1 = 0) : MidE B D T E sk s f g w u10 wx := by
  obtain ⟨k, P, U, E', hu, hts, hr, hs⟩ := h
  have h4 := (tok_le f g _ s.rest (Nat.le_refl _)).2
  have hP : (tok f g s.rest).2 = [] := List.eq_nil_of_length_eq_zero (by omega)
  have hP0 : P = [] := List.eq_nil_of_length_eq_zero (by have := hts.len; omega)
  subst hP0
  exact ⟨k, U, E', hu, by rw [ht, hP]; exact hts, by rw [ht]; exact hr, hs⟩

theorem said_raw {s : DSt} {f : Nat → Bool} {g : Nat → Int} {sk : Bool} {n k : Nat} {P : List UInt8} (hts : TS f g s.rest sk n k P []) (hn : (tok f g s.rest).1 = n) (hP : (tok f g s.rest).2 = P) (hl : n ≤ s.rest.length) :
    s.said f g sk = s.rest.take n ∧ s.took f g sk = { s with r1 := s.r1 + n, line := if f 10 = true then s.line + (cntB (s.rest.take n) 10 : Int) else s.line } := by
  unfold DSt.said DSt.took
  rw [hn, hP]
  cases sk
  · obtain ⟨h1, h2⟩ := hts.same hl rfl rfl
    rw [if_neg (by simp), if_pos (.inr h2)]
    exact ⟨h1, rfl⟩
  · rw [if_pos rfl, if_pos (.inl rfl)]
    exact ⟨rfl, rfl⟩

theorem said_esc {s : DSt} {f : Nat → Bool} {g : Nat → Int} {n k : Nat} {P U : List UInt8} (hts : TS f g s.rest false n k P U) (hU : U ≠ []) (hn : (tok f g s.rest).1 = n) (hP : (tok f g s.rest).2 = P) :
    s.said f g false = P ∧ s.took f g false = { s with r1 := s.r1 + n, esc := s.esc ++ P, line := if f 10 = true then s.line + (cntB (s.rest.take n) 10 : Int) else s.line } ∧ P = U ++ (s.rest.take n).drop k := by
  have hlt := hts.some hU
  unfold DSt.said DSt.took
  rw [hn, hP, if_neg (by simp), if_neg (by simp; omega)]
  exact ⟨rfl, rfl, hts.eq rfl⟩

theorem bytes_shift {w : World} {E n c : Nat} {A P : List UInt8} (h : BytesIs w (.slice (some ⟨E, 0, none⟩) n c) (A ++ P)) : BytesIs w (.slice (some ⟨E, A.length, none⟩) P.length (c - A.length)) P := by
  obtain ⟨b, o, c', he, h1, h2, h3, h4⟩ := h
  simp only [Value.slice.injEq, Option.some.injEq, Addr.mk.injEq, and_true] at he
  obtain ⟨⟨rfl, rfl⟩, he2, rfl⟩ := he
  rw [List.length_append] at h1
  refine ⟨E, A.length, c - A.length, rfl, by omega, by omega, h3, fun i hi => ?_⟩
  have := h4 (A.length + i) (by rw [List.length_append]; omega)
  rw [Nat.zero_add] at this
  rw [this]
  simp

/-- What is taken, and where it lies. -/
def TakenE (B D T E : Nat) (sk : Bool) (s : DSt) (f : Nat → Bool) (g : Nat → Int) (w : World) (v : Value) (wx : World) : Prop :=
  ∃ E5, BytesIs wx v (s.said f g sk) ∧ Lies T E5 (s.took f g sk).esc.length v ∧ Rep wx B D T E5 sk (s.took f g sk) ∧ Stw s.esc.length D E w E5 wx

theorem ad_of {w : World} {B D T E : Nat} {sk : Bool} {s : DSt} (H : Rep w B D T E sk s) (lo hh C : Nat) (hC : s.t.length ≤ C) (h2 : hh ≤ s.t.length) :
    ∃ ad, sliced (some ⟨T, 0, none⟩) lo hh C 1 = .slice (some ad) (hh - lo) (C - lo) ∧ ∀ (j : Nat) (u : Value), (((s.t.take hh).drop lo).map byteV)[j]? = some u → w.cell? (ad.add j) = some u := by
  by_cases hc : C = lo
  · refine ⟨⟨T, 0, none⟩, by simp [sliced, hc], fun j u hu => ?_⟩
    rw [List.drop_eq_nil_of_le (by simp; omega)] at hu
    simp at hu
  · exact ⟨⟨T, lo, none⟩, (slv1 hc rfl).symm, seg_news H lo hh h2⟩

theorem valid_bytes {w : World} {v : Value} {l : List UInt8} (h : BytesIs w v l) (hl : l.length ≤ 100000) (hT : Tabs w) : Calls Tryz.prog 101 #[v] w fun e w' => e = .returned (.bool (Lib.validD l)) ∧ Below w.heap.size w w' := by
  obtain ⟨b, o, c, rfl, h1, h2, h3, h4⟩ := h
  have hs : (ByteArray.mk l.toArray).size = l.length := rfl
  have := valid_any ⟨l.toArray⟩ b o c w (by rw [hs]; exact hl) (by rw [hs]; exact h1) ⟨h3, fun i hi => by
    rw [hs] at hi
    rw [get!_lt' _ i (by rw [hs]; exact hi)]
    exact h4 i hi⟩ hT
  rw [hs] at this
  exact this

theorem took_ok {s : DSt} (f : Nat → Bool) (g : Nat → Int) (sk : Bool) (hk : s.Ok) : (s.took f g sk).Ok := by
  have h1 := (tok_le f g _ s.rest (Nat.le_refl _)).1
  have h2 := cntB_le (s.rest.take (tok f g s.rest).1) 10
  have h3 : (s.rest.take (tok f g s.rest).1).length ≤ (tok f g s.rest).1 := List.length_take_le _ _
  rw [rest_len] at h1
  obtain ⟨k1, k2⟩ := hk
  unfold DSt.Ok DSt.took
  simp only
  split <;> constructor <;> omega

/-- The taken bytes, as they stand in the text. -/
def RawIs (T : Nat) (l : List UInt8) (v : Value) (w : World) : Prop := BytesIs w v l ∧ ∃ o c, v = .slice (some ⟨T, o, none⟩) l.length c

theorem raw_of {w : World} {B D T E : Nat} {sk : Bool} {s : DSt} (h : Rep w B D T E sk s) {C n lo hh : Nat} (hC : s.t.length ≤ C) (hm : C ≤ maxLen) (hh1 : lo + n = hh) (h2 : hh ≤ s.t.length) {v : Value} (hv : v = sliced (some ⟨T, 0, none⟩) lo hh C 1) : RawIs T ((s.t.take hh).drop lo) v w := by
  subst hv
  refine ⟨slice_text h C lo hh hC hm (by omega) h2, ?_⟩
  rw [slice_len s lo hh h2]
  by_cases hc : C = lo
  · exact ⟨0, C - lo, by simp [sliced, hc]⟩
  · exact ⟨lo, C - lo, (slv1 hc rfl).symm⟩

theorem RawIs.keep {T : Nat} {l : List UInt8} {v : Value} {w w' : World} (h : RawIs T l v w) (hs : w.heap.size ≤ w'.heap.size) (hk : w'.heap[T]? = w.heap[T]?) : RawIs T l v w' := by
  obtain ⟨h1, o, c, rfl⟩ := h
  refine ⟨h1.keep hs fun b hb => ?_, o, c, rfl⟩
  simp [Value.ownBlock] at hb
  subst hb; exact hk

set_option maxHeartbeats 4000000 in
set_option maxRecDepth 100000 in
theorem takeEsc_any {w : World} {B D T E : Nat} {sk : Bool} {s : DSt} {S X : Nat} {f : Nat → Bool} {g : Nat → Int} (h : Rep w B D T E sk s) (hes : s.esc.length + s.r0 ≤ s.r1) (hk : s.Ok)
    (hS : SetIs w S f) (hX : EscIs w X g) (hSD : S ≠ D) (hSE : S ≠ E) (hXD : X ≠ D) (hXE : X ≠ E) (hg : ∀ c, c < 256 → 0 ≤ g c ∧ g c < 256) :
    Calls Tryz.prog 54 #[.pointer (some ⟨D, 0, none⟩), .pointer (some ⟨S, 0, none⟩), .pointer (some ⟨X, 256, none⟩)] w (DW B D T E sk w s.esc.length (s.afterEsc f g sk) (TookIs B T s f g sk)) := by
  obtain ⟨C, ec, q1, q2, q3, q4, c0, c1, c2, c3, c4, c5, c6, c7, c8, c9, fz, ho⟩ := h.cells
  have b1 := h.le0
  have b2 := h.small
  have b3 := h.le1
  have H := hid h; clear h
  have hDE := H.out.DE
  have HS := hid hS; clear hS
  have HX := hid hX; clear hX
  have HG := hid hg; clear hg
  have HK := hid hk; clear hk
  have hb0 : (0 : Int) ≤ (s.r1 : Int) := by omega
  have hb1 : (s.r1 : Int) ≤ (s.t.length : Int) := by omega
  clear ho
  go_enter Tryz.func54, Tryz.ntmps54
  go_wp2
  go_step3
  go_wp2
  go_quiet (fail)
  go_wp2
  go_step3
  go_upto_block 0 with fail
  go_cut [10] from 32 to 168 (fun u10 wx => MidE B D T E sk s f g w u10 wx)
  case first =>
    clear c0 c1 c2 c3 c4 c5 c6 c7 c8 c9 fz
    go_wp2
    go_loopg [10] 2 (fun gh u10 wx => (gh = 2 ∧ InE B D T E sk s f g w 0 u10 wx) ∨ (gh = 1 ∧ MidE B D T E sk s f g w u10 wx ∧ (tok f g s.rest).1 = s.rest.length))
    case atStart => exact .inl ⟨rfl, 0, [], [], E, by simp, TS.zero, by simpa using H.out.drewN nq, ((Stp.refl D E w).weak _ H.out.lt.2.2.1 H.out.DE).drewN nq⟩
    case round =>
      rcases hrel with ⟨rfl, hin⟩ | ⟨rfl, hmid, htl⟩
      · obtain ⟨k0, P0, U0, E0, rfl, hts0, hr0, hst0⟩ := hin
        have H0 := hid hr0
        have HIN : Hid (InE B D T E sk s f g w 0 (.int .i64 ((s.r1 : Int) - (s.r0 : Int) + (k0 : Int))) wr) := hid ⟨k0, P0, U0, E0, rfl, hts0, hr0, hst0⟩
        clear hts0 hr0 hst0
        go_wp2_with fail
        refine (ensure_any H0.out 1 (by omega) 1 rfl).mono ?_; rintro e w1 ⟨rfl, n1, rfl⟩
        by_cases hlt : s.r1 < s.t.length
        · have hb : (DSt.has { s with esc := s.esc ++ U0 } 1) = true := by simp [DSt.has]; omega
          rw [hb]
          clear hb
          obtain ⟨C, ec, q1, q2, q3, q4, c0, c1, c2, c3, c4, c5, c6, c7, c8, c9, fz, ho⟩ := H0.out.cells
          simp only [] at q1 c1 c2 c3
          have hne : ¬ C = s.r1 := by omega
          clear ho c0 c4 c5 c6 c7 c8 c9 q3 q4
          go_wp2_with fail
          go_quiet (fail)
          go_wp2
          obtain ⟨n, hn⟩ : ∃ n, n = s.t.length - s.r1 := ⟨_, rfl⟩
          rw [← hn]
          have HN := hid hn
          have hn1 : n + s.r1 ≤ s.t.length := by omega
          have hn2 : s.t.length ≤ n + s.r1 := by omega
          clear hn fz hne c1 c2 c3
          go_loopg [10, 12, 13] n (fun gh u10 u12 u13 wx => ∃ i : Nat, i + gh = n ∧ u12 = .slice (some ⟨T, s.r1, none⟩) n (C - s.r1) ∧ u13 = .int .i64 i ∧ InE B D T E sk s f g w i u10 wx)
          case atStart => 
            exact ⟨0, by omega, rfl, rfl, (HIN.out.drewN _).drewN _⟩
          case round =>
            obtain ⟨i, hig, rfl, rfl, hin⟩ := hrel
            have HI := hid hin
            obtain ⟨k, P, U, E1, rfl, hts, hr, hst⟩ := hin
            have HT := hid hts; clear hts
            have Hr := hid hr; clear hr
            have Hst := hid hst; clear hst
            obtain ⟨C1, ec1, p1, p2, p3, p4, c0, c1, c2, c3, c4, c5, c6, c7, c8, c9, fz, ho⟩ := Hr.out.cells
            have HO := hid ho; clear ho
            simp only [] at p1 c1 c2 c3 c6 c7
            clear c0 c4 c5 c8 c9 p3 p4
            cases gk with
            | zero =>
              obtain rfl : i = n := by omega
              have hD3 := fz 3
              have hnr : s.rest.length = i := by rw [rest_len]; exact HN.out.symm
              have htl : (tok f g s.rest).1 = i := by rw [HT.out.tk.fin hnr.symm]
              go_wp2
              go_roundg 1
              case measure => omega
              case rel => exact .inr ⟨rfl, HI.out.mid htl (by omega) b1 hDE rfl b3, by rw [htl, hnr]⟩
            | succ g2 =>
              have hkn : (i : Int) < (n : Int) := by omega
              have hcell := Hr.out.byte (s.r1 + i) (by show s.r1 + i < s.t.length; omega)
              simp only [] at hcell
              generalize hc : s.t[s.r1 + i]'(by omega) = c at *
              have hil : i < s.rest.length := by rw [rest_len]; omega
              have hrc : s.rest[i] = c := by rw [rest_at s i hil]; exact hc
              have HC := hid hrc; clear hrc hc
              by_cases h92 : c.toNat = 92
              · have hcb : ((c.toNat : Int) != 92) = false := by rw [bne_eq_false_iff_eq]; omega
                have H92 := hid h92; clear h92
                by_cases hend : i + 1 = n
                · as_aux_lemma =>
                    have hge : (n : Int) ≤ (i : Int) + 1 := by omega
                    have hD3 := fz 3
                    go_wp2_with fail
                    refine (ensure_any Hr.out (i + 2) (by omega) _ (by omega)).mono ?_; rintro e w1 ⟨rfl, n2, rfl⟩
                    have hb : (DSt.has { s with esc := s.esc ++ U } (i + 2)) = false := by simp [DSt.has]; omega
                    rw [hb]
                    clear hb
                    go_wp2_with fail
                    go_meet
                    have hn3 : i + 1 = s.rest.length := by rw [rest_len]; omega
                    have hts := HT.out.more hil (HT.out.tk.atLast hn3 (by rw [HC.out]; exact H92.out))
                    have htk : (tok f g s.rest).1 = i + 1 := by rw [HT.out.tk.last hn3 (by rw [HC.out]; exact H92.out)]
                    have hin : InE B D T E sk s f g w (i + 1) (.int .i64 ((s.r1 : Int) - (s.r0 : Int) + (k : Int))) wr := ⟨k, _, U, E1, rfl, hts, Hr.out, Hst.out⟩
                    exact (hin.drewN n2).mid htk (by omega) b1 hDE (by omega) b3
                · have hlt2 : (i : Int) + 1 < (n : Int) := by omega
                  have hcell2 := Hr.out.byte (s.r1 + (i + 1)) (by show s.r1 + (i + 1) < s.t.length; omega)
                  simp only [] at hcell2
                  generalize hd : s.t[s.r1 + (i + 1)]'(by omega) = d at *
                  have hil2 : i + 1 < s.rest.length := by rw [rest_len]; omega
                  have hrd : s.rest[i + 1] = d := by rw [rest_at s (i + 1) hil2]; exact hd
                  have HD := hid hrd; clear hrd hd
                  have hdl := d.toNat_lt
                  have hXc : wr.cell? ⟨X, 256 + d.toNat, none⟩ = some (.int .u8 (g d.toNat)) := (HX.out.grow (Hst.out.block X HX.out.lt hXD hXE)).cell d.toNat (by omega)
                  by_cases hg0 : g d.toNat = 0
                  · as_aux_lemma =>
                      have HG0 := hid hg0
                      rw [hg0] at hXc
                      clear hg0
                      go_wp2_with fail
                      go_quiet (fail)
                      go_wp2
                      go_roundg g2
                      case measure => omega
                      case rel =>
                        have hts := HT.out.more hil (HT.out.tk.held hil2 (by rw [HC.out]; exact H92.out) (by rw [HD.out]; exact HG0.out))
                        have hin : InE B D T E sk s f g w (i + 1) (.int .i64 ((s.r1 : Int) - (s.r0 : Int) + (k : Int))) wr := ⟨k, _, U, E1, rfl, hts, Hr.out, Hst.out⟩
                        exact ⟨i + 1, by omega, rfl, by go_num, hin.drewN _⟩
                  · obtain ⟨g3, rfl⟩ : ∃ g3, g2 = g3 + 1 := ⟨g2 - 1, by omega⟩
                    obtain ⟨rc, hrc⟩ : ∃ rc, g d.toNat = rc := ⟨_, rfl⟩
                    rw [hrc] at hXc
                    have hr0 : (rc == 0) = false := by rw [beq_eq_false_iff_ne, ← hrc]; exact hg0
                    have hr1 := HG.out d.toNat (by omega)
                    rw [hrc] at hr1
                    have HR := hid hrc; clear hrc
                    have HG0 := hid hg0; clear hg0
                    cases sk with
                    | true =>
                      go_wp2_with fail
                      go_quiet (fail)
                      go_wp2
                      go_roundg g3
                      case measure => omega
                      case rel =>
                        have hts := HT.out.skip (UInt8.ofNat rc.toNat) (by have := HT.out.tk.esc hil2 (by rw [HC.out]; exact H92.out) (by rw [HD.out]; exact HG0.out); rw [HD.out, HR.out] at this; exact this)
                        have hin : InE B D T E true s f g w (i + 2) (.int .i64 ((s.r1 : Int) - (s.r0 : Int) + (k : Int))) wr := ⟨k, _, U, E1, rfl, hts, Hr.out, Hst.out⟩
                        exact ⟨i + 2, by omega, rfl, by go_num, hin.drewN _⟩
                    | false =>
                      go_wp2_with fail
                      go_quiet (fail)
                      go_wp2
                      as_aux_lemma =>
                        have hki := HT.out.ki
                        have hDE1 := Hr.out.DE
                        have hDlt := Hr.out.lt.1
                        obtain ⟨lo, hlo⟩ : ∃ lo, s.r1 + k = lo := ⟨_, rfl⟩
                        obtain ⟨hh, hhh⟩ : ∃ hh, s.r1 + i = hh := ⟨_, rfl⟩
                        have he1 : (s.r0 : Int) + ((s.r1 : Int) - (s.r0 : Int) + (k : Int)) = (lo : Int) := by omega
                        have he2 : (s.r1 : Int) + (i : Int) = (hh : Int) := by omega
                        have hw1 : IntKind.i64.wrap (lo : Int) = (lo : Int) := by rw [IntKind.wrap_i64]; omega
                        have hw2 : IntKind.i64.wrap (hh : Int) = (hh : Int) := by rw [IntKind.wrap_i64]; omega
                        have hz1 : (0 : Int) ≤ (lo : Int) := by omega
                        have hz2 : (lo : Int) ≤ (hh : Int) := by omega
                        have hz3 : (hh : Int) ≤ (C1 : Int) := by omega
                        have hne : ¬ C1 = lo := by omega
                        have HLO := hid hlo; clear hlo
                        have HHI := hid hhh; clear hhh
                        have hz5 : lo ≤ hh := by omega
                        have hz6 : hh ≤ C1 := by omega
                        have hne2 : ¬ lo = C1 := by omega
                        have hhl : hh ≤ s.t.length := by omega
                        have hsl : (((s.t.take hh).drop lo).map byteV).length = hh - lo := by rw [List.length_map, slice_len s lo hh hhl]
                        have hUl := HT.out.ul
                        have hPl := HT.out.len
                        have hbd : (s.esc ++ U).length + (hh - lo) ≤ 100000 := by have := H.out.esc1; rw [List.length_append]; omega
                        have hBw : B ≤ (wr.drewN (nq + 1)).heap.size := by have := Hr.out.bD; show B ≤ wr.heap.size; omega
                        obtain ⟨m0, hm0⟩ : ∃ m0, (s.esc ++ U).length = m0 := ⟨_, rfl⟩
                        rw [hm0] at c7 hbd
                        have ho := HO.out
                        rw [hm0] at ho
                        have HO2 := hid ho; clear ho
                        have HM0 := hid hm0; clear hm0
                        as_aux_lemma =>
                          have hsv : sliced (some ⟨T, 0, none⟩) lo hh C1 1 = .slice (some ⟨T, lo, none⟩) (hh - lo) (C1 - lo) := (slv1 hne rfl).symm
                          rw [List.length_map] at hsl
                          refine region54_20 (B := B) (D := D) (T := T) (E := E1) (n := s.t.length) (C := C1) (ec := ec1) (m0 := m0) (r0 := s.r0) (r1 := s.r1) (lo := lo) (hh := hh) (xs := (s.esc ++ U).map byteV) (l := (s.t.take hh).drop lo) (ad := ⟨T, lo, none⟩) (fun _ _ _ _ _ h => h) rfl rfl rfl rfl c7 c1 c2 c3 (fz 7) hDlt hDE1 (by rw [he1, hw1]) (by rw [he2, hw2]) hz5 hz6 p2 hsv HO2.out hsl (seg_news (Hr.out.drewN (nq + 1)) lo hh hhl) hbd hBw ?_
                          intro g1 cap1 w1 ha
                          simp only [putAll, Act.put, List.setIfInBounds_toArray, List.set_cons_zero, List.set_cons_succ]
                          have ha2 := ha
                          rw [← HM0.out] at ha2
                          obtain ⟨hrA, hsA⟩ := (Hr.out.drewN (nq + 1)).appended (l := (s.t.take hh).drop lo) (m := hh - lo) (slice_len s lo hh hhl).symm ha2 (by rw [slice_len s lo hh hhl]; have := H.out.esc1; have := hes; show (s.esc ++ U).length + (hh - lo) ≤ 2000; rw [List.length_append]; omega)
                          simp only [HM0.out] at hrA hsA
                          generalize w1.setCell ⟨D, 7, none⟩ (.slice (some ⟨g1, 0, none⟩) (m0 + (hh - lo)) cap1) = w2 at hrA hsA ⊢
                          have HRA := hid hrA; clear hrA
                          have HSA := hid hsA; clear hsA ha ha2 HO2 HO hsl hbd hBw
                          obtain ⟨C2, ec2, r1', r2', r3', r4', d0, d1, d2, d3, d4, d5, d6, d7, d8, d9, fy, hoy⟩ := HRA.out.cells
                          have HOY := hid hoy; clear hoy
                          clear c1 c2 c3 c6 c7 fz d0 d4 d5 d8 d9 hXc hcell hcell2
                          obtain ⟨m2, hm2⟩ : ∃ m2, ((s.esc ++ U) ++ (s.t.take hh).drop lo).length = m2 := ⟨_, rfl⟩
                          have hoy := HOY.out
                          simp only [] at d1 d2 d3 d6 d7
                          rw [hm2] at d7 hoy
                          have HOY2 := hid hoy; clear hoy HOY
                          have hm3 : m2 ≤ 2900 := by rw [← hm2, List.length_append, slice_len s lo hh hhl, List.length_append]; have := H.out.esc1; omega
                          have HM2 := hid hm2; clear hm2
                          have hBw2 : B ≤ w2.heap.size := by have := HRA.out.lt; have := HRA.out.bD; omega
                          have hDl2 := HRA.out.lt.1
                          have hDg := HRA.out.DE
                          have hnew := heap_alloc_new w2 (.cells #[.int .u8 rc] 5)
                          have HNEW := hid hnew; clear hnew
                          go_wp2_with (at_builtin; refine wpList_app (B := B) (E := g1) (n := m2) (ec := ec2) (xs := (((s.esc ++ U) ++ (s.t.take hh).drop lo)).map byteV) rfl _ _ rfl rfl (HOY2.out.alloc _) ⟨w2.heap.size, 0, none⟩ 1 1 [.int .u8 rc] rfl rfl (World.news_of_block HNEW.out) (fun u hu => by simp at hu; subst hu; rfl) (by omega) (by have := hBw2; simp; omega) ?_; intro g2 cap2 w3 hb; (have e7 : w3.cell? ⟨D, 7, none⟩ = some (.slice (some ⟨g1, 0, none⟩) m2 ec2) := by rw [hb.far (p := ⟨D, 7, none⟩) (by show D < _; simp; omega) hDg, World.cell?_of_block (w := w2) (a := ⟨D, 7, none⟩) (Below.heap_alloc _ _ _ hDl2)]; exact d7); (have f7 : w3.frozen? ⟨D, 7, none⟩ = false := by rw [hb.free (p := ⟨D, 7, none⟩) (by show D < _; simp; omega) hDg, World.frozen?_of_block (w := w2) (a := ⟨D, 7, none⟩) (Below.heap_alloc _ _ _ hDl2)]; exact fy 7))
                          as_aux_lemma =>
                            have hbyte : [Value.int .u8 rc] = [UInt8.ofNat rc.toNat].map byteV := byteV_of hr1.1 hr1.2
                            have hb2 : Appd B g1 ((s.esc ++ U) ++ (s.t.take hh).drop lo).length 1 (((s.esc ++ U) ++ (s.t.take hh).drop lo).map byteV) ([UInt8.ofNat rc.toNat].map byteV) (w2.alloc (.cells #[.int .u8 rc] 5)) g2 cap2 w3 := by rw [HM2.out, ← hbyte]; exact hb
                            obtain ⟨hrB, hsB⟩ := (HRA.out.alloc (.cells #[.int .u8 rc] 5)).appended (l := [UInt8.ofNat rc.toNat]) (m := 1) rfl hb2 (by have := H.out.esc1; have := hes; have := HM2.out; have := slice_len s lo hh hhl; show ((s.esc ++ U) ++ (s.t.take hh).drop lo).length + 1 ≤ 2000; rw [List.length_append, List.length_append]; omega)
                            simp only [HM2.out] at hrB hsB
                            generalize w3.setCell ⟨D, 7, none⟩ (.slice (some ⟨g2, 0, none⟩) (m2 + 1) cap2) = w4 at hrB hsB ⊢
                            have hsC := ((Hst.out.drewN _).trans HSA.out (by have := HM0.out; rw [List.length_append] at this; omega) hDE).trans ((Stw.alloc HRA.out (.cells #[.int .u8 rc] 5)).trans hsB (Nat.le_refl _) hDg) (by have := HM2.out; rw [List.length_append, List.length_append] at this; omega) hDE
                            have HRB := hid hrB; clear hrB
                            have HSC := hid hsC; clear hsC hsB hb hb2 hbyte e7 f7 HNEW HOY2
                            obtain ⟨C3, ec3, t1', t2', t3', t4', a0, a1, a2, a3, a4, a5, a6, a7, a8, a9, fx, hox⟩ := HRB.out.cells
                            clear a0 a1 a4 a5 a6 a7 a8 a9 d1 d2 d3 d6 d7 fx hox fy
                            simp only [] at a2 a3
                            go_quiet (fail)
                            go_wp2
                            go_roundg g3
                            case measure => omega
                            case rel =>
                              have hts := HT.out.unesc (UInt8.ofNat rc.toNat) (by have := HT.out.tk.esc hil2 (by rw [HC.out]; exact H92.out) (by rw [HD.out]; exact HG0.out); rw [HD.out, HR.out] at this; exact this) (by rw [rest_len]; omega)
                              refine ⟨i + 2, by omega, rfl, by go_num, i + 2, _, _, g2, by go_num, hts, ?_, HSC.out.drewN _⟩
                              have hR := HRB.out.drewN nq
                              rw [← HLO.out, ← HHI.out, piece_eq s i k] at hR
                              simpa [List.append_assoc] using hR
              · have hcb : ((c.toNat : Int) != 92) = true := by rw [bne_iff_ne]; omega
                have H92 := hid h92; clear h92
                as_aux_lemma =>
                  have hcS := fun c => get_any (w := wr) (S := S) (f := f) (by
                    unfold SetIs
                    rw [Hst.out.block S HS.out.lt hSD hSE]; exact HS.out) c
                  have hD3 := fz 3
                  cases hfc : f c.toNat
                  · have HF := hid hfc
                    go_wp2_with (go_at_call 62; refine (hcS c).mono ?_; rintro e w' ⟨rfl, rfl⟩)
                    go_meet
                    have htk : (tok f g s.rest).1 = i := by rw [HT.out.tk.stop hil (by rw [HC.out]; exact H92.out) (by rw [HC.out]; exact HF.out)]
                    exact HI.out.mid htk (by omega) b1 hDE rfl b3
                  · have HF := hid hfc
                    go_wp2_with (go_at_call 62; refine (hcS c).mono ?_; rintro e w' ⟨rfl, rfl⟩)
                    go_roundg g2
                    case measure => omega
                    case rel =>
                      have hts := HT.out.more hil (HT.out.tk.plain hil (by rw [HC.out]; exact H92.out) (by rw [HC.out]; exact HF.out))
                      exact ⟨i + 1, by omega, rfl, by go_num, k, _, U, E1, rfl, hts, Hr.out, Hst.out⟩
        · have hb : (DSt.has { s with esc := s.esc ++ U0 } 1) = false := by simp [DSt.has]; omega
          rw [hb]
          clear hb
          go_wp2_with fail
          go_meet
          have hnr : s.rest.length = 0 := by rw [rest_len]; omega
          have h0 := tok_le f g _ s.rest (Nat.le_refl _)
          exact (HIN.out.drewN n1).mid0 (by omega)
      · obtain ⟨k0, U0, E0, rfl, hts0, hr0, hst0⟩ := hmid
        have H0 := hid hr0; clear hr0
        go_wp2_with fail
        refine (ensure_any H0.out 1 (by omega) 1 rfl).mono ?_; rintro e w1 ⟨rfl, n1, rfl⟩
        have hb : (DSt.has { s with r1 := s.r1 + (tok f g s.rest).1, esc := s.esc ++ U0 } 1) = false := by
          have := rest_len s
          simp [DSt.has]; omega
        rw [hb]
        clear hb
        go_wp2_with fail
        go_meet
        exact ⟨k0, U0, E0, rfl, hts0, H0.out.drewN _, hst0.drewN _⟩
  case rest =>
    as_aux_lemma =>
      obtain ⟨k, U, E1, rfl, hts, hr, hst⟩ := hcut
      have hnl := (tok_le f g _ s.rest (Nat.le_refl _)).1
      have hrl := rest_len s
      obtain ⟨n, hn⟩ : ∃ n, (tok f g s.rest).1 = n := ⟨_, rfl⟩
      obtain ⟨P, hP⟩ : ∃ P, (tok f g s.rest).2 = P := ⟨_, rfl⟩
      rw [hn, hP] at hts
      rw [hn] at hr hnl
      rw [hrl] at hnl
      obtain ⟨hh, hhh⟩ : ∃ hh, s.r1 + n = hh := ⟨_, rfl⟩
      have HTS := hid hts; clear hts
      have HR1 := hid hr; clear hr
      have HST := hid hst; clear hst
      have HN := hid hn; clear hn
      have HP := hid hP; clear hP
      clear hrl c0 c1 c2 c3 c4 c5 c6 c7 c8 c9 fz
      obtain ⟨C1, ec1, p1, p2, p3, p4, c0, c1, c2, c3, c4, c5, c6, c7, c8, c9, fz, ho⟩ := HR1.out.cells
      have HO := hid ho; clear ho
      simp only [] at p1 c1 c2 c3 c7 c8
      rw [hhh] at c3
      have HHH := hid hhh; clear hhh
      have hhl : hh ≤ s.t.length := by have := HHH.out; omega
      have hlh : s.r1 ≤ hh := by have := HHH.out; omega
      clear c0 c4 c5 c6 c9
      go_upto_region 25 with fail
      go_cut [16] (fun u16 wx => RawIs T ((s.t.take hh).drop s.r1) u16 wx ∧ ∃ m, wx = wc.drewN m)
      case first =>
        as_aux_lemma =>
          have he : (s.r0 : Int) + ((s.r1 : Int) - (s.r0 : Int)) = (s.r1 : Int) := by omega
          have hb2 : (s.r1 : Int) ≤ (hh : Int) := by omega
          have hb3 : (hh : Int) ≤ (C1 : Int) := by omega
          go_quiet (fail)
          go_wp2_with fail
          all_goals
            go_meet
            exact ⟨raw_of (HR1.out.drewN _) p1 p2 HHH.out hhl (by first | exact slv0 (by omega) (by omega) | exact slv1 (by omega) rfl), _, rfl⟩
      case rest =>
        as_aux_lemma =>
          obtain ⟨hraw, m1, rfl⟩ := hcut
          have HRAW := hid hraw; clear hraw
          have hcS : Calls Tryz.prog 62 #[.pointer (some ⟨S, 0, none⟩), .int .u8 10] (wc.drewN m1) fun e w' => e = .returned (.bool (f 10)) ∧ w' = wc.drewN m1 := by
            have h1 : SetIs (wc.drewN m1) S f := by
              have : SetIs wc S f := by
                unfold SetIs
                rw [HST.out.block S HS.out.lt hSD hSE]; exact HS.out
              exact this
            exact get_any h1 10
          obtain ⟨fb, hfb⟩ : ∃ fb, f 10 = fb := ⟨_, rfl⟩
          rw [hfb] at hcS
          have HFB := hid hfb; clear hfb
          go_upto_if 185 with (go_at_call 62; refine hcS.mono ?_; rintro e w' ⟨rfl, rfl⟩)
          have hr2 := HR1.out.drewN m1
          have hs2 := HST.out.drewN m1
          have hc8 : (wc.drewN m1).cell? ⟨D, 8, none⟩ = some (.int .i64 s.line) := c8
          have hf8 : (wc.drewN m1).frozen? ⟨D, 8, none⟩ = false := fz 8
          generalize wc.drewN m1 = w1 at hr2 hs2 HRAW hc8 hf8 ⊢
          have HR2 := hid hr2; clear hr2
          have HS2 := hid hs2; clear hs2 hcS
          clear c1 c2 c3 c7 c8 fz HR1 HST HO
          go_cut [] (fun wx => RawIs T ((s.t.take hh).drop s.r1) u16 wx ∧ Rep wx B D T E1 sk { s with r1 := s.r1 + n, esc := s.esc ++ U, line := if f 10 = true then s.line + (cntB ((s.t.take hh).drop s.r1) 10 : Int) else s.line } ∧ Stw s.esc.length D E w E1 wx)
          case first =>
            cases fb
            · go_wp2_with fail
              go_meet
              refine ⟨HRAW.out, ?_, HS2.out⟩
              rw [HFB.out]
              simpa using HR2.out
            · have hcl := cntB_le ((s.t.take hh).drop s.r1) 10
              rw [slice_len s s.r1 hh hhl] at hcl
              have hk1 := HK.out.1
              have hk2 := HK.out.2
              have hcall := count_any (HRAW.out.1.drewN 1) (by rw [slice_len s s.r1 hh hhl]; omega) 10 10 rfl
              obtain ⟨cnt, hcnt⟩ : ∃ cnt, cntB ((s.t.take hh).drop s.r1) 10 = cnt := ⟨_, rfl⟩
              rw [hcnt] at hcl hcall
              have HCNT := hid hcnt; clear hcnt
              have HCALL := hid hcall; clear hcall
              go_wp2_with fail
              refine region54_27 (D := D) (v16 := u16) (line := s.line) (cnt := (cnt : Int)) (fun _ _ _ _ _ h => h) rfl rfl rfl hc8 hf8 (by rw [IntKind.wrap_i64]; omega) HCALL.out ?_
              simp only [putAll, Act.put, List.setIfInBounds_toArray, List.set_cons_zero, List.set_cons_succ]
              go_wp2_with fail
              go_meet
              have hR := (HR2.out.drewN 1).setLine (s.line + (cnt : Int)) (by omega) (by omega)
              have hlt := HR2.out.lt
              refine ⟨HRAW.out.keep (by simp [World.setCell]) (heap_setCell_other _ _ T _ (fun e => HR2.out.DT e.symm)), ?_, (HS2.out.drewN 1).setD hDE _ _⟩
              rw [HFB.out, if_pos rfl, HCNT.out]
              exact hR
          case rest =>
            as_aux_lemma =>
              obtain ⟨hraw, hr3, hs3⟩ := hcut
              clear hc8 hf8 HRAW HR2 HS2
              have HRAW := hid hraw; clear hraw
              have HR3 := hid hr3
              have HS3 := hid hs3; clear hs3
              obtain ⟨C2, ec2, p1', p2', p3', p4', c0, c1, c2, c3, c4, c5, c6, c7, c8, c9, fz, ho⟩ := hr3.cells
              have HO := hid ho; clear ho hr3
              simp only [] at c1 c2 c3 c7
              rw [HHH.out] at c3
              have hfz7 := fz 7
              clear c0 c4 c5 c6 c8 c9 fz
              obtain ⟨m0, hm0⟩ : ∃ m0, (s.esc ++ U).length = m0 := ⟨_, rfl⟩
              rw [hm0] at c7
              have hul : m0 = s.esc.length + U.length := by rw [← hm0, List.length_append]
              have HUL := hid hul; clear hul
              have HM0 := hid hm0; clear hm0
              have hpe : (s.t.take hh).drop s.r1 = s.rest.take n := by
                have := piece_eq s n 0
                rw [← HHH.out]
                simpa using this
              rw [hpe] at HRAW HR3
              have HPE := hid hpe; clear hpe
              go_upto_if 201 with fail
              go_cut [16] (fun u16 wx => TakenE B D T E sk s f g w u16 wx)
              case first =>
                as_aux_lemma =>
                  by_cases hU : U = []
                  · subst hU
                    have hng : ¬ (s.esc.length : Int) < (m0 : Int) := by have := HUL.out; simp at this; omega
                    have hsr := said_raw HTS.out HN.out HP.out (by rw [rest_len]; omega)
                    have HSR := hid hsr; clear hsr
                    go_wp2_with fail
                    go_meet
                    unfold TakenE
                    rw [HSR.out.1, HSR.out.2]
                    obtain ⟨hb, o, c, rfl⟩ := HRAW.out
                    refine ⟨E1, hb, ⟨T, o, _, c, rfl, .inl rfl⟩, ?_, HS3.out⟩
                    have := HR3.out
                    rw [List.append_nil] at this
                    exact this
                  · obtain rfl : sk = false := by
                      cases sk with
                      | false => rfl
                      | true => exact absurd (HTS.out.skU rfl).1 hU
                    have hUp : 0 < U.length := List.length_pos_iff.2 hU
                    have hng : (s.esc.length : Int) < (m0 : Int) := by have := HUL.out; omega
                    have HU := hid hU; clear hU
                    have hki := HTS.out.ki
                    have hDE1 := HR3.out.DE
                    have hDlt := HR3.out.lt.1
                    have hbD := HR3.out.bD
                    obtain ⟨lo, hlo⟩ : ∃ lo, s.r1 + k = lo := ⟨_, rfl⟩
                    have he1 : (s.r1 : Int) - (s.r0 : Int) + (k : Int) + (s.r0 : Int) = (lo : Int) := by omega
                    have hlh2 : lo ≤ hh := by have := HHH.out; omega
                    obtain ⟨ad, hsv, hnews⟩ := ad_of HR3.out lo hh C2 p1' hhl
                    simp only [] at hnews
                    have hown := HO.out
                    simp only [HM0.out] at hown
                    have hUl := HTS.out.ul
                    have hPl := HTS.out.len
                    have HE1 := hid he1; clear he1
                    have HLO := hid hlo; clear hlo
                    have HOWN := hid hown; clear hown HO
                    have HNW := hid hnews; clear hnews
                    have HSV := hid hsv; clear hsv
                    go_wp2_with fail
                    refine region54_29 (B := B) (D := D) (T := T) (E := E1) (n := s.t.length) (C := C2) (ec := ec2) (m0 := m0) (r0 := s.r0) (lo := lo) (hh := hh) (xs := (s.esc ++ U).map byteV) (l := (s.t.take hh).drop lo) (ad := ad) (fun _ _ _ _ _ h => h) rfl rfl rfl c7 c1 c2 c3 hfz7 hDlt hDE1 (by rw [HE1.out, IntKind.wrap_i64]; omega) hlh2 (by omega) p2' HSV.out HOWN.out (slice_len s lo hh hhl) HNW.out (by have := HUL.out; have := H.out.esc1; omega) (by omega) ?_
                    intro g1 cap1 w4 ha
                    simp only [putAll, Act.put, List.setIfInBounds_toArray, List.set_cons_zero, List.set_cons_succ]
                    have ha2 := ha
                    rw [← HM0.out] at ha2
                    obtain ⟨hrA, hsA⟩ := (HR3.out.drewN 1).appended (l := (s.t.take hh).drop lo) (m := hh - lo) (slice_len s lo hh hhl).symm ha2 (by rw [slice_len s lo hh hhl]; have := H.out.esc1; have := hes; show (s.esc ++ U).length + (hh - lo) ≤ 2000; rw [List.length_append]; omega)
                    simp only [HM0.out] at hrA hsA
                    generalize w4.setCell ⟨D, 7, none⟩ (.slice (some ⟨g1, 0, none⟩) (m0 + (hh - lo)) cap1) = w5 at hrA hsA ⊢
                    as_aux_lemma =>
                      have hesc : (s.esc ++ U) ++ (s.t.take hh).drop lo = s.esc ++ P := by
                        have h1 := (said_esc HTS.out HU.out HN.out HP.out).2.2
                        have h2 := piece_eq s n k
                        rw [HHH.out, HLO.out] at h2
                        rw [h2, List.append_assoc, ← h1]
                      have hPl2 : P.length = U.length + (hh - lo) := by
                        have := congrArg List.length hesc
                        rw [List.length_append, List.length_append, List.length_append, slice_len s lo hh hhl] at this
                        omega
                      simp only [hesc] at hrA
                      have HRA := hid hrA; clear hrA
                      have hsC := ((HS3.out.drewN 1).trans hsA (by have := HUL.out; omega) hDE)
                      have HSC := hid hsC; clear hsC hsA ha ha2
                      obtain ⟨C3, ec3, t1', t2', t3', t4', a0, a1, a2, a3, a4, a5, a6, a7, a8, a9, fx, hox⟩ := HRA.out.cells
                      clear a0 a1 a2 a3 a4 a5 a6 a8 a9 fx
                      simp only [] at a7
                      obtain ⟨m1, hm1⟩ : ∃ m1, (s.esc ++ P).length = m1 := ⟨_, rfl⟩
                      have hbo := bytes_own hox (by show 0 < (s.esc ++ P).length; rw [List.length_append]; omega)
                      have hbs := bytes_shift hbo
                      simp only [] at t3'
                      rw [hm1] at a7 t3'
                      have hm2 : m1 = s.esc.length + P.length := by rw [← hm1, List.length_append]
                      have hne5 : ¬ ec3 = s.esc.length := by omega
                      have hz1 : (s.esc.length : Int) ≤ (m1 : Int) := by omega
                      have hz0 : (0 : Int) ≤ (s.esc.length : Int) := by omega
                      have hz2 : m1 - s.esc.length = P.length := by omega
                      have hz3 : (m1 : Int) ≤ (ec3 : Int) := by omega
                      have HZ2 := hid hz2; clear hz2
                      have HBS := hid hbs; clear hbs hbo hox
                      have HM2 := hid hm2; clear hm2 hm1 hPl2 hesc
                      go_wp2_with fail
                      go_meet
                      unfold TakenE
                      have hse := said_esc HTS.out HU.out HN.out HP.out
                      rw [hse.1, hse.2.1]
                      refine ⟨g1, ?_, ⟨g1, s.esc.length, P.length, ec3 - s.esc.length, ?_, .inr ⟨rfl, by show _ ≤ (s.esc ++ P).length; rw [List.length_append]; exact Nat.le_refl _⟩⟩, HRA.out, HSC.out⟩
                      · rw [HZ2.out]; exact HBS.out
                      · rw [HZ2.out]
              case rest =>
                as_aux_lemma =>
                  have htk := hcut
                  obtain ⟨E5, hb5, hl5, hr5, hs5⟩ := htk
                  clear hcut HRAW HR3 HS3 HO c1 c2 c3 c7 hfz7
                  have hsl : (s.said f g sk).length ≤ 100000 := by
                    have h1 := tok_le f g _ s.rest (Nat.le_refl _)
                    rw [rest_len] at h1
                    unfold DSt.said
                    split
                    · have := List.length_take_le (tok f g s.rest).1 s.rest; omega
                    · omega
                  have hval := valid_bytes hb5 hsl hr5.tabs
                  have HB5 := hid hb5; clear hb5
                  have HL5 := hid hl5; clear hl5
                  have HR5 := hid hr5; clear hr5
                  have HS5 := hid hs5; clear hs5 hsl
                  obtain ⟨vd, hvd⟩ : ∃ vd, Lib.validD (s.said f g sk) = vd := ⟨_, rfl⟩
                  rw [hvd] at hval
                  have HVD := hid hvd; clear hvd
                  have HVAL := hid hval; clear hval
                  cases vd
                  · go_wp2_with (go_at_call 101; refine HVAL.out.mono ?_; rintro e w6 ⟨rfl, hbel⟩)
                    refine (errorsNew_any _ _).mono ?_
                    rintro e w7 ⟨rfl, rfl⟩
                    have hr6 := HR5.out.below hbel
                    have hs6 := HS5.out.trans (((Stp.refl D E5 wc).below hbel).weak _ HR5.out.lt.2.2.1 HR5.out.DE) (Nat.le_refl _) hDE
                    have hB6 : B ≤ w6.heap.size := by have := hr6.lt; have := hr6.bD; omega
                    have HR6 := hid hr6; clear hr6
                    have HS6 := hid hs6; clear hs6
                    have hok := took_ok f g sk HK.out
                    have HOK := hid hok; clear hok hbel
                    go_wp2_with fail
                    refine (syntaxErr_any (HR6.out.alloc _) HOK.out (s.r1 - s.r0) (by show s.r0 + (s.r1 - s.r0) ≤ s.r1 + _; omega) _ (by omega) _ ⟨hB6, _, heap_alloc_new _ _⟩).mono ?_
                    rintro e w8 ⟨E7, v, rfl, herr, hr7, st7⟩
                    have HERR := hid herr; clear herr
                    have HR7 := hid hr7; clear hr7
                    have HS7 := hid st7; clear st7
                    go_wp2_with fail
                    go_ret3
                    refine ⟨E7, _, rfl, ?_, ?_, ?_⟩
                    · unfold TookIs
                      rw [if_neg (by rw [HVD.out]; simp)]
                      exact ⟨_, _, rfl, HERR.out⟩
                    · unfold DSt.afterEsc
                      rw [if_neg (by rw [HVD.out]; simp)]
                      exact HR7.out
                    · exact HS6.out.trans ((Stw.alloc HR6.out _).trans (HS7.out.weak _ (HR6.out.alloc _).lt.2.2.1 HR6.out.DE) (Nat.le_refl _) HR6.out.DE) (Nat.le_refl _) hDE
                  · go_wp2_with (go_at_call 101; refine HVAL.out.mono ?_; rintro e w6 ⟨rfl, hbel⟩)
                    go_ret3
                    refine ⟨E5, _, rfl, ?_, ?_, ?_⟩
                    · unfold TookIs
                      rw [if_pos HVD.out]
                      exact ⟨_, rfl, HB5.out.below hbel, HL5.out⟩
                    · unfold DSt.afterEsc
                      rw [if_pos HVD.out]
                      exact HR5.out.below hbel
                    · exact HS5.out.trans (((Stp.refl D E5 wc).below hbel).weak _ HR5.out.lt.2.2.1 HR5.out.DE) (Nat.le_refl _) hDE
end Go.Proofs.YtejlokdcocacaaaGreatDoor
