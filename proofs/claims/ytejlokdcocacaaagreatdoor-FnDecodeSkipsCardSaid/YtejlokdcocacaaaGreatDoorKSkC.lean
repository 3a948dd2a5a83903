/-
  PROVED: laws.FnDecodeSkips answers true at every input: the card of the statement, tied to the program's text. Conditions: none beyond the statement's own.
-/
import Derived.Test.YtejlokdcocacaaaGreatDoorKSkB
import Derived.Test.YtejlokdcocacaaaGreatDoorKSpecLe
import Derived.Test.YtejlokdcocacaaaGreatDoorKFault
import Derived.Test.YtejlokdcocacaaaGreatDoorRows
import Derived.Lib.LaidU8T
import Derived.PinnedBridge
import Derived.Stop.LaidErr
import Derived.ChangeMaps5
import Derived.WalkKit
import Derived.ProofKit
import Derived.OpenShut
import Derived.LaidMore
import Derived.Lay
import Derived.LaidOnce
import Derived.Stop.Joined
import Derived.Test.YtejlokdcocacaaaGreatDoorTie
import Derived.Test.YtejlokdcocacaaaGreatDoorCards
import Derived.SevenTiedAt
namespace Go.Proofs.YtejlokdcocacaaaGreatDoor
open Go.RowKit

set_option maxHeartbeats 4000000 in
set_option maxRecDepth 100000 in
theorem skips_long {w : World} (s : ByteArray) (h : 800 < s.size) (hm : s.size ≤ maxLen) : Calls Tryz.prog 4 #[.string s] w fun e w' => e = .returned (.bool true) ∧ Below w.heap.size w w' := by
  unfold maxLen at hm
  have hm2 : (s.size : Int) ≤ 9223372036854775807 := by omega
  by_cases h1 : (2147483647 : Int) < (s.size : Int)
  · clear h hm
    go_enter Tryz.func4, Tryz.ntmps4
    go_wp2_with fail
    go_ret
    exact ⟨rfl, Below.refl _ _⟩
  · have h2 : (800 : Int) < (s.size : Int) := by omega
    clear h hm
    go_enter Tryz.func4, Tryz.ntmps4
    go_wp2_with fail
    go_ret
    exact ⟨rfl, Below.refl _ _⟩

theorem skips_all {w : World} {B : Nat} (hT : Tabs w) (hB3 : 3 < B) (hB : B ≤ w.heap.size) (hG : Glob B w) (s : ByteArray) (hm : s.size ≤ maxLen) :
    Calls Tryz.prog 4 #[.string s] w fun e w' => e = .returned (.bool true) ∧ Below w.heap.size w w' := by
  by_cases h : s.size ≤ 800
  · exact law_core hT hB3 hB hG s h (lentries_spec s (by omega) w)
  · exact skips_long s (by omega) hm
end Go.Proofs.YtejlokdcocacaaaGreatDoor

/- What the listed variables give the walks: Go's two tables of UTF-8, the package's error. -/
namespace Go.Proofs.YtejlokdcocacaaaGreatDoor
open Go.RowKit Go.Lib

def u8Ren : Go.Shelf.Ren := ⟨fun n => n, fun | 119 => 122 | 138 => 192 | 139 => 193 | n => n, fun | 3 => 2 | 4 => 3 | n => n⟩

theorem u8Types : U8Types Tryz.prog u8Ren := ⟨by kernel_rfl, by kernel_rfl, by kernel_rfl, by kernel_rfl⟩
theorem u8Extra : U8Extra Tryz.prog u8Ren := ⟨by kernel_rfl, by kernel_rfl, by kernel_rfl, by kernel_rfl, by kernel_rfl, by kernel_rfl, by kernel_rfl⟩

theorem firstT_eq (x : Nat) : firstT x = Go.Lib.firstT x := rfl
theorem accept_eq : (Rows.laid_unicode_utf8_acceptRanges : DataW Unit) = acceptData := by kernel_rfl

theorem tabs_of {W : World} {l : List (String × DataW Unit)} (h : laidMet Tryz.prog l W) (h1 : ("unicode/utf8.first", (Rows.laid_unicode_utf8_first : DataW Unit)) ∈ l) (h2 : ("unicode/utf8.acceptRanges", (Rows.laid_unicode_utf8_acceptRanges : DataW Unit)) ∈ l) : Tabs W := by
  have r1 := laidMet.reads h h1
  have r2 := laidMet.reads h h2
  rw [show (Rows.laid_unicode_utf8_first : DataW Unit) = firstData from Pinned.utf8First_eq] at r1
  rw [accept_eq] at r2
  obtain ⟨k1, k2⟩ := utf8Tabs_of_readsT u8Types u8Extra r1 r2
  exact ⟨fun x hx => k1 x hx, fun i hi => (k2 i hi).1, fun i hi => (k2 i hi).2⟩

theorem starErr : "*" ++ "errors.errorString" = "*errors.errorString" := by decide
theorem rowErr (u : TypeId) (h : Tryz.prog.typeName? 3 u = some "*errors.errorString") : u = 167 :=
  typeName_ptr_named (nm := "errors.errorString") (by rw [starErr]; kernel_rfl) (by kernel_rfl) (by decide) u (by rw [starErr]; exact h)

set_option maxRecDepth 1000000 in
theorem glob_of {W : World} {l r : List (String × DataW Unit)} (h : laidMet Tryz.prog (l ++ ("pub-teleprinter/pub/lineprotocol/lineprotocol.ErrValueOutOfRange", (Rows.laid_pub_teleprinter_pub_lineprotocol_lineprotocol_ErrValueOutOfRange : DataW Unit)) :: r) W) : Glob W.heap.size W := by
  have h2 : laidMet Tryz.prog (("pub-teleprinter/pub/lineprotocol/lineprotocol.ErrValueOutOfRange", (Rows.laid_pub_teleprinter_pub_lineprotocol_lineprotocol_ErrValueOutOfRange : DataW Unit)) :: r) W := by
    induction l with
    | nil => exact h
    | cons x l ih => exact ih h.tail
  obtain ⟨ps, ⟨g0, t0, cs0, f0, p0, q0, hg0, ht0, hv0, hd0, _, e0⟩, _, hrows⟩ := h2
  obtain rfl := Option.some.inj ((show Tryz.prog.globalNamed "pub-teleprinter/pub/lineprotocol/lineprotocol.ErrValueOutOfRange" = some 1 by kernel_rfl).symm.trans hg0)
  obtain rfl := Option.some.inj ((show (Tryz.prog.globals[1]?).map (·.type) = some 57 by kernel_rfl).symm.trans ht0)
  subst e0
  obtain ⟨l0⟩ := cs0
  have ok0 : ∀ u v, l0 = [.iface u v] → Value.okWide Tryz.prog W .any 0 u v := fun u v e => by
    subst e
    exact (hrows 1 0 (by simp [MemPlace.row])).2 u v (by simpa using World.var?_cell hg0 hv0 0)
  obtain ⟨a0, s0, rfl, hc0, hs0, hz0, hp0⟩ := errorString_of_trod underlying57 rowErr underlying167 (f := { name := "s", type := 9, offset := 0, embedded := false, tag := "", pkgPath := "errors", byteOffset := 0 }) (by kernel_rfl) rfl rfl Tryz.underlying9 (by kernel_rfl) (by kernel_rfl) hd0 ok0
  subst hp0
  obtain ⟨⟨c, t, hb⟩, _⟩ := hrows a0.block (a0.off + 0) (by simp [MemPlace.row])
  exact ⟨a0, c, t, by simpa using World.var?_cell hg0 hv0 0, lt_of_block hb, hb⟩
end Go.Proofs.YtejlokdcocacaaaGreatDoor

/- The row FnDecodeSkips. -/
namespace Go.Proofs.YtejlokdcocacaaaGreatDoor
open Go.ChangeShapes Go.WideShapes Go.ChangeAt Go.RowKit

theorem own : ownKnob Tryz.prog.godebug = none := by kernel_rfl

/-- What is listed. -/
noncomputable def laidT : List (String × DataW Unit) := Rows.fnDecodeSkipsRow.laid

theorem shapedT (os : Os) : (World.laidAll Tryz.prog os laidT).Shaped Tryz.prog := World.shaped_of_ZipB (by kernel_rfl) (by kernel_rfl)

theorem metT (os : Os) (args : Array Value) : laidMetH Tryz.prog laidT ((World.laidAll Tryz.prog os laidT).forCall (fun _ _ => 0) ⟨#[], args, []⟩).memory := by
  rw [MakeChecks.laidMetH_plain _ _ _ (by kernel_rfl)]
  exact laidMet_laidAll _ (by kernel_rfl) (by kernel_rfl)

theorem laid_split : laidT = laidT.take 14 ++ ("pub-teleprinter/pub/lineprotocol/lineprotocol.ErrValueOutOfRange", (Rows.laid_pub_teleprinter_pub_lineprotocol_lineprotocol_ErrValueOutOfRange : DataW Unit)) :: laidT.drop 15 := by kernel_rfl

theorem mem_first : ("unicode/utf8.first", (Rows.laid_unicode_utf8_first : DataW Unit)) ∈ laidT := by
  have h : laidT = laidT.take 22 ++ ("unicode/utf8.first", (Rows.laid_unicode_utf8_first : DataW Unit)) :: laidT.drop 23 := by kernel_rfl
  rw [h]; exact List.mem_append_right _ (.head _)
theorem mem_accept : ("unicode/utf8.acceptRanges", (Rows.laid_unicode_utf8_acceptRanges : DataW Unit)) ∈ laidT := by
  have h : laidT = laidT.take 9 ++ ("unicode/utf8.acceptRanges", (Rows.laid_unicode_utf8_acceptRanges : DataW Unit)) :: laidT.drop 10 := by kernel_rfl
  rw [h]; exact List.mem_append_right _ (.head _)

/-- What the condition gives. -/
theorem facts_of {W : World} (h : laidMetH Tryz.prog laidT W) : Tabs W ∧ Glob W.heap.size W ∧ 3 < W.heap.size := by
  rw [MakeChecks.laidMetH_plain _ _ _ (by kernel_rfl)] at h
  have ht := tabs_of h mem_first mem_accept
  refine ⟨ht, glob_of (laid_split ▸ h), ?_⟩
  exact World.block_lt_of_cell? _ _ (ht.lo 0 (by omega))

set_option maxHeartbeats 4000000 in
set_option maxRecDepth 100000 in
theorem lifted (os : Os) (started : os.Started) (H : Type) (enc : TypeId × Value → H) :
    ReturnsInHanded {} Tryz.checked os 4 .any (fun w args => (Rows.fnDecodeSkipsSpec.pre enc Tryz.prog Tryz.f4 [] false w args ∧ laidMetH Tryz.prog laidT w) ∧ sizedMet enc Tryz.prog Tryz.f4 (OpenSpec.ofChange Rows.fnDecodeSkipsSpec) false w args)
      (Rows.fnDecodeSkipsSpec.post enc Tryz.prog Tryz.f4 false true false false) := by
  refine returnsInHanded_of_change_and (C := Tryz.checked) (X := fun w _ => laidMetH Tryz.prog laidT w) (fun _ _ _ hh h => h.of_heap hh) own started (by kernel_rfl) Tryz.func4
    (ChangeSpec.witness_shaped (enc := enc) (C := Tryz.checked) (os := os) (X := fun w _ => laidMetH Tryz.prog laidT w) false (World.laidAll Tryz.prog os laidT) #[.string ⟨#[]⟩] 8 (World.laidAll_os _ _ _)
      (shapedT os) (by kernel_rfl) (by kernel_rfl) (by kernel_rfl) (metT os _)) ?_
  intro W base args ds gs before hval0 hW _ _ hL _
  have hval : ∀ (j : Nat) t v, Tryz.f4.params[j]? = some t → args[j]? = some v → Value.okWide Tryz.prog W .any base t v := hval0
  have hW' := hW
  obtain ⟨p, q, hA0, hV, rfl, _, _⟩ := hW
  have hA : DataW.TrodAll enc Tryz.prog W 0 (fun _ => true) true Tryz.f4.params.toList args.toList ds p := hA0
  rw [Tryz.params4] at hA hval
  obtain ⟨v0, vs0, d0, ds0, p0, q0, hargs, rfl, rfl, h0, r0⟩ := trodAll_cons hA
  obtain ⟨rfl, rfl, rfl⟩ := trodAll_nil r0
  obtain rfl : args = #[v0] := by cases args; simp_all
  obtain ⟨rfl, rfl⟩ := trodVars_none hV
  obtain ⟨s0, rfl, rfl, rfl, w0⟩ := Go.ChangeMaps.open_string Tryz.underlying9 (hval 0 9 v0 rfl rfl) h0
  clear hA0 hval0
  simp only [List.append_nil] at hW'
  obtain ⟨hT, hG, h3⟩ := facts_of hL
  refine (skips_all hT h3 (Nat.le_refl _) hG s0 w0).mono fun e W' ⟨he, hb⟩ => ?_
  subst he
  exact ⟨_, rfl, _, _, _, [], [], [], hW', (trodAll_cons_mk (shut_bool Tryz.underlying4 _) trodAll_mk0), (trodAll_cons_mk (Go.ChangeMaps.shut_string Tryz.underlying9 w0) trodAll_mk0), rfl, hb.frame _, fun h => by cases h⟩
end Go.Proofs.YtejlokdcocacaaaGreatDoor

/- The card of FnDecodeSkips. -/
namespace Go.Proofs.YtejlokdcocacaaaGreatDoor
open Go.ChangeShapes Go.WideShapes Go.ChangeAt Go.RowKit

theorem fnDecodeSkips_said : Rows.FnDecodeSkipsSaid :=
  OpenClaim.holds_of_wide 4 Tryz.f4 rfl rfl rfl rfl rfl rfl rfl ⟨rfl, rfl, rfl, rfl, rfl⟩ rfl rfl rfl rfl rfl (by kernel_rfl) Tryz.func4 (by kernel_rfl)
    (of_decide_eq_true (by kernel_rfl)) (by unfold Func.isWrapper; first | (rw [if_pos (by decide +kernel)]; kernel_rfl) | (rw [if_neg (by decide +kernel)]; exact ⟨rfl, rfl⟩))
    (fun os started H enc _ => lifted os started H enc)

theorem fnDecodeSkips_card : Rows.FnDecodeSkipsCardSaid :=
  Claim7.holds_tied_plain_at .later [] [.data, .data, .widerDeep, .widerDeep, .data, .data, .data, .data, .data, .data, .sentinel, .sentinel, .sentinel, .sentinel, .sentinel, .pinned, .pinned, .pinned, .pinned, .pinned, .pinned, .pinned, .pinned] true (true, "ff61c9a577dbea704bbc320bb37623c7ab1553772d3d4aeb00196435431d81fd") true
    fnDecodeSkips_said (fun _ h => by cases h) (by kernel_rfl) (fun _ h => by cases h) fnDecodeSkips_row_tie rfl ⟨rfl, rfl⟩ (by kernel_rfl) rfl
    (fun f fn hf hfn => by
      obtain rfl : f = 4 := Option.some.inj ((show Tryz.prog.funcNamed "pub-teleprinter/laws.FnDecodeSkips" = some 4 by kernel_rfl).symm.trans hf) |>.symm
      obtain rfl : fn = Tryz.f4 := (Option.some.inj (Tryz.func4.symm.trans hfn)).symm
      exact ⟨by kernel_rfl, fun j t ht => by
        rw [Tryz.params4] at ht
        have hm : t ∈ [9] := by simpa using Array.mem_of_getElem? ht
        have hall : ([9].all fun u => !Tryz.prog.wantsStandIn u) = true := by kernel_rfl
        exact (show Tryz.prog.wantsStandIn t = false by simpa using List.all_eq_true.1 hall t hm)⟩)
    (by kernel_rfl)
#print axioms fnDecodeSkips_card
end Go.Proofs.YtejlokdcocacaaaGreatDoor
