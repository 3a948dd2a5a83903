/- What the listed variables give the walks: Go's two tables of UTF-8, the table of powers of ten, the package's error. -/
import Derived.Test.YtejlokdcocacaaaGreatDoorFault
import Derived.Test.YtejlokdcocacaaaGreatDoorShl
import Derived.Test.YtejlokdcocacaaaGreatDoorRows
import Derived.Lib.LaidU8T
import Derived.PinnedBridge
import Derived.Stop.LaidErr
namespace Go.Proofs.YtejlokdcocacaaaGreatDoor
open Go.RowKit Go.Lib

def u8Ren : Go.Shelf.Ren := ⟨fun n => n, fun | 119 => 122 | 138 => 192 | 139 => 193 | n => n, fun | 3 => 2 | 4 => 3 | n => n⟩

theorem u8Types : U8Types Tryz.prog u8Ren := ⟨by kernel_rfl, by kernel_rfl, by kernel_rfl, by kernel_rfl⟩
theorem u8Extra : U8Extra Tryz.prog u8Ren := ⟨by kernel_rfl, by kernel_rfl, by kernel_rfl, by kernel_rfl, by kernel_rfl, by kernel_rfl, by kernel_rfl⟩

theorem firstT_eq (x : Nat) : firstT x = Go.Lib.firstT x := rfl
theorem accept_eq : (Rows.laid_unicode_utf8_acceptRanges : DataW Unit) = acceptData := by kernel_rfl
theorem pow10_eq : (Rows.laid_internal_strconv_uint64pow10 : DataW Unit) = tabData .u64 pow10Tab := by kernel_rfl

theorem tabs_of {W : World} {l : List (String × DataW Unit)} (h : laidMet Tryz.prog l W) (h1 : ("unicode/utf8.first", (Rows.laid_unicode_utf8_first : DataW Unit)) ∈ l) (h2 : ("unicode/utf8.acceptRanges", (Rows.laid_unicode_utf8_acceptRanges : DataW Unit)) ∈ l) : Tabs W := by
  have r1 := laidMet.reads h h1
  have r2 := laidMet.reads h h2
  rw [show (Rows.laid_unicode_utf8_first : DataW Unit) = firstData from Pinned.utf8First_eq] at r1
  rw [accept_eq] at r2
  obtain ⟨k1, k2⟩ := utf8Tabs_of_readsT u8Types u8Extra r1 r2
  exact ⟨fun x hx => k1 x hx, fun i hi => (k2 i hi).1, fun i hi => (k2 i hi).2⟩

theorem pow_of {W : World} {l : List (String × DataW Unit)} (h : laidMet Tryz.prog l W) (h1 : ("internal/strconv.uint64pow10", (Rows.laid_internal_strconv_uint64pow10 : DataW Unit)) ∈ l) : TabIs Tryz.prog W "internal/strconv.uint64pow10" .u64 pow10Tab := by
  obtain ⟨g, t, cs, fuel, p, hg, hty, hvar, hd⟩ := laidMet.reads h h1
  obtain rfl := Option.some.inj ((show Tryz.prog.globalNamed "internal/strconv.uint64pow10" = some 0 by kernel_rfl).symm.trans hg)
  obtain rfl := Option.some.inj ((show (Tryz.prog.globals[0]?).map (·.type) = some 151 by kernel_rfl).symm.trans hty)
  rw [pow10_eq] at hd
  unfold TabIs
  rw [hvar, ← cells_of_tab (n := 20) (e := 32) (by kernel_rfl) (by kernel_rfl) (by kernel_rfl) (by kernel_rfl) hd]

theorem starErr : "*" ++ "errors.errorString" = "*errors.errorString" := by decide
theorem rowErr (u : TypeId) (h : Tryz.prog.typeName? 3 u = some "*errors.errorString") : u = 167 :=
  typeName_ptr_named (nm := "errors.errorString") (by rw [starErr]; kernel_rfl) (by kernel_rfl) (by decide) u (by rw [starErr]; exact h)

set_option maxRecDepth 1000000 in
theorem glob_of {W : World} {l r : List (String × DataW Unit)} (h : laidMet Tryz.prog (l ++ ("pub-teleprinter/pub/lineprotocol/lineprotocol.ErrValueOutOfRange", (Rows.laid_pub_teleprinter_pub_lineprotocol_lineprotocol_ErrValueOutOfRange : DataW Unit)) :: r) W) : Glob W.heap.size W := by
  have h2 : laidMet Tryz.prog (("pub-teleprinter/pub/lineprotocol/lineprotocol.ErrValueOutOfRange", (Rows.laid_pub_teleprinter_pub_lineprotocol_lineprotocol_ErrValueOutOfRange : DataW Unit)) :: r) W := by
    induction l with
    | nil => exact h
    | cons x l ih => exact ih h.tail
  obtain ⟨ps, ⟨g0, t0, cs0, f0, p0, q0, hg0, ht0, hv0, hd0, _, e0⟩, _, hrows⟩ := h2
  obtain rfl := Option.some.inj ((show Tryz.prog.globalNamed "pub-teleprinter/pub/lineprotocol/lineprotocol.ErrValueOutOfRange" = some 1 by kernel_rfl).symm.trans hg0)
  obtain rfl := Option.some.inj ((show (Tryz.prog.globals[1]?).map (·.type) = some 57 by kernel_rfl).symm.trans ht0)
  subst e0
  obtain ⟨l0⟩ := cs0
  have ok0 : ∀ u v, l0 = [.iface u v] → Value.okWide Tryz.prog W .any 0 u v := fun u v e => by
    subst e
    exact (hrows 1 0 (by simp [MemPlace.row])).2 u v (by simpa using World.var?_cell hg0 hv0 0)
  obtain ⟨a0, s0, rfl, hc0, hs0, hz0, hp0⟩ := errorString_of_trod underlying57 rowErr underlying167 (f := { name := "s", type := 9, offset := 0, embedded := false, tag := "", pkgPath := "errors", byteOffset := 0 }) (by kernel_rfl) rfl rfl Tryz.underlying9 (by kernel_rfl) (by kernel_rfl) hd0 ok0
  subst hp0
  obtain ⟨⟨c, t, hb⟩, _⟩ := hrows a0.block (a0.off + 0) (by simp [MemPlace.row])
  exact ⟨a0, c, t, by simpa using World.var?_cell hg0 hv0 0, lt_of_block hb, hb⟩
end Go.Proofs.YtejlokdcocacaaaGreatDoor
