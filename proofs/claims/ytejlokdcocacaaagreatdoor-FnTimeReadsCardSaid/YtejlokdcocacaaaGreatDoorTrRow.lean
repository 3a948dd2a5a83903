/- The row FnTimeReads. -/
import Derived.Test.YtejlokdcocacaaaGreatDoorTrC
import Derived.Test.YtejlokdcocacaaaGreatDoorLaid
import Derived.WalkKit
import Derived.ProofKit
import Derived.OpenShut
import Derived.LaidMore
import Derived.Lay
import Derived.LaidOnce
import Derived.Stop.Joined
namespace Go.Proofs.YtejlokdcocacaaaGreatDoor
open Go.ChangeShapes Go.WideShapes Go.ChangeAt Go.RowKit

theorem own : ownKnob Tryz.prog.godebug = none := by kernel_rfl

/-- What is listed. -/
noncomputable def laidT : List (String × DataW Unit) := Rows.fnTimeReadsRow.laid

theorem shapedT (os : Os) : (World.laidAll Tryz.prog os laidT).Shaped Tryz.prog := World.shaped_of_ZipB (by kernel_rfl) (by kernel_rfl)

theorem metT (os : Os) (args : Array Value) : laidMetH Tryz.prog laidT ((World.laidAll Tryz.prog os laidT).forCall (fun _ _ => 0) ⟨#[], args, []⟩).memory := by
  rw [MakeChecks.laidMetH_plain _ _ _ (by kernel_rfl)]
  exact laidMet_laidAll _ (by kernel_rfl) (by kernel_rfl)

theorem laid_split : laidT = laidT.take 14 ++ ("pub-teleprinter/pub/lineprotocol/lineprotocol.ErrValueOutOfRange", (Rows.laid_pub_teleprinter_pub_lineprotocol_lineprotocol_ErrValueOutOfRange : DataW Unit)) :: laidT.drop 15 := by kernel_rfl

theorem mem_first : ("unicode/utf8.first", (Rows.laid_unicode_utf8_first : DataW Unit)) ∈ laidT := by
  have h : laidT = laidT.take 22 ++ ("unicode/utf8.first", (Rows.laid_unicode_utf8_first : DataW Unit)) :: laidT.drop 23 := by kernel_rfl
  rw [h]; exact List.mem_append_right _ (.head _)
theorem mem_accept : ("unicode/utf8.acceptRanges", (Rows.laid_unicode_utf8_acceptRanges : DataW Unit)) ∈ laidT := by
  have h : laidT = laidT.take 9 ++ ("unicode/utf8.acceptRanges", (Rows.laid_unicode_utf8_acceptRanges : DataW Unit)) :: laidT.drop 10 := by kernel_rfl
  rw [h]; exact List.mem_append_right _ (.head _)
theorem mem_pow : ("internal/strconv.uint64pow10", (Rows.laid_internal_strconv_uint64pow10 : DataW Unit)) ∈ laidT := by
  have h : laidT = laidT.take 8 ++ ("internal/strconv.uint64pow10", (Rows.laid_internal_strconv_uint64pow10 : DataW Unit)) :: laidT.drop 9 := by kernel_rfl
  rw [h]; exact List.mem_append_right _ (.head _)

/-- What the condition gives. -/
theorem facts_of {W : World} (h : laidMetH Tryz.prog laidT W) : Tabs W ∧ Glob W.heap.size W ∧ Lib.TabIs Tryz.prog W "internal/strconv.uint64pow10" .u64 Lib.pow10Tab ∧ 3 < W.heap.size := by
  rw [MakeChecks.laidMetH_plain _ _ _ (by kernel_rfl)] at h
  have ht := tabs_of h mem_first mem_accept
  refine ⟨ht, glob_of (laid_split ▸ h), pow_of h mem_pow, ?_⟩
  exact World.block_lt_of_cell? _ _ (ht.lo 0 (by omega))

set_option maxHeartbeats 4000000 in
set_option maxRecDepth 100000 in
theorem lifted (os : Os) (started : os.Started) (H : Type) (enc : TypeId × Value → H) :
    ReturnsInHanded {} Tryz.checked os 3 .any (fun w args => (Rows.fnTimeReadsSpec.pre enc Tryz.prog Tryz.f3 [] false w args ∧ laidMetH Tryz.prog laidT w) ∧ sizedMet enc Tryz.prog Tryz.f3 (OpenSpec.ofChange Rows.fnTimeReadsSpec) false w args)
      (Rows.fnTimeReadsSpec.post enc Tryz.prog Tryz.f3 false true false false) := by
  refine returnsInHanded_of_change_and (C := Tryz.checked) (X := fun w _ => laidMetH Tryz.prog laidT w) (fun _ _ _ hh h => h.of_heap hh) own started (by kernel_rfl) Tryz.func3
    (ChangeSpec.witness_shaped (enc := enc) (C := Tryz.checked) (os := os) (X := fun w _ => laidMetH Tryz.prog laidT w) false (World.laidAll Tryz.prog os laidT) #[.int .i64 0, .int .i64 0, .int .i64 0] 8 (World.laidAll_os _ _ _)
      (shapedT os) (by kernel_rfl) (by kernel_rfl) (by kernel_rfl) (metT os _)) ?_
  intro W base args ds gs before hval0 hW _ _ hL _
  have hval : ∀ (j : Nat) t v, Tryz.f3.params[j]? = some t → args[j]? = some v → Value.okWide Tryz.prog W .any base t v := hval0
  have hW' := hW
  obtain ⟨p, q, hA0, hV, rfl, _, _⟩ := hW
  have hA : DataW.TrodAll enc Tryz.prog W 0 (fun _ => true) true Tryz.f3.params.toList args.toList ds p := hA0
  rw [Tryz.params3] at hA hval
  obtain ⟨v0, vs0, d0, ds0, p0, q0, hargs, rfl, rfl, h0, r0⟩ := trodAll_cons hA
  obtain ⟨v1, vs1, d1, ds1, p1, q1, rfl, rfl, rfl, h1, r1⟩ := trodAll_cons r0
  obtain ⟨v2, vs2, d2, ds2, p2, q2, rfl, rfl, rfl, h2, r2⟩ := trodAll_cons r1
  obtain ⟨rfl, rfl, rfl⟩ := trodAll_nil r2
  obtain rfl : args = #[v0, v1, v2] := by cases args; simp_all
  obtain ⟨rfl, rfl⟩ := trodVars_none hV
  obtain ⟨a0, rfl, rfl, rfl, w0⟩ := open_int Tryz.underlying3 (hval 0 3 v0 rfl rfl) h0
  obtain ⟨a1, rfl, rfl, rfl, w1⟩ := open_int Tryz.underlying2 (hval 1 2 v1 rfl rfl) h1
  obtain ⟨a2, rfl, rfl, rfl, w2⟩ := open_int Tryz.underlying2 (hval 2 2 v2 rfl rfl) h2
  clear hA0 hval0
  simp only [List.append_nil] at hW'
  have hx1 : -9223372036854775808 ≤ a1 ∧ a1 ≤ 9223372036854775807 := by simpa [Lit.wf, IntKind.min, IntKind.max, IntKind.signed, IntKind.bits] using w1
  have hx2 : -9223372036854775808 ≤ a2 ∧ a2 ≤ 9223372036854775807 := by simpa [Lit.wf, IntKind.min, IntKind.max, IntKind.signed, IntKind.bits] using w2
  obtain ⟨hT, hG, hP, h3⟩ := facts_of hL
  refine (law_all hT h3 (Nat.le_refl _) hG hP a0 a1 a2 hx1.1 hx1.2 hx2.2).mono fun e W' ⟨he, hb⟩ => ?_
  subst he
  exact ⟨_, rfl, _, _, _, [], [], [], hW', (trodAll_cons_mk (shut_bool Tryz.underlying4 _) trodAll_mk0), (trodAll_cons_mk (shut_int Tryz.underlying3 w0) (trodAll_cons_mk (shut_int Tryz.underlying2 w1) (trodAll_cons_mk (shut_int Tryz.underlying2 w2) trodAll_mk0))), rfl, hb.frame _, fun h => by cases h⟩
end Go.Proofs.YtejlokdcocacaaaGreatDoor
