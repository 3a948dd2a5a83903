/- 'append' onto the decoder's buffer of unescaped bytes: where the new slice lies, and that the old bytes stay. -/
import Derived.Test.YtejlokdcocacaaaGreatDoorKDecD
import Derived.Test.YtejlokdcocacaaaGreatDoorKTok
import Derived.Deep.RegionHeld3
import Derived.Maps.AppendAt
import Derived.ArgAppend
namespace Go.Proofs.YtejlokdcocacaaaGreatDoor
open Go.RowKit

/-- What an append leaves. -/
def Appd (B E n m : Nat) (xs news : List Value) (w : World) (g cap : Nat) (w' : World) : Prop :=
  w'.ownsRow B 5 1 (.slice (some ⟨g, 0, none⟩) (n + m) cap) (n + m) (xs ++ news) ∧ w.grownBy w' (some E) ∧ (g = E ∨ g = w.heap.size) ∧ ∀ i, i < n → w'.cell? ⟨E, i, none⟩ = w.cell? ⟨E, i, none⟩

theorem run_app (w : World) (ty : TypeId) {B E n ec : Nat} {xs : List Value} (hown : w.ownsRow B 5 1 (.slice (some ⟨E, 0, none⟩) n ec) n xs) (ad : Addr) (m c : Nat) (news : List Value) (hl : news.length = m) (hnews : ∀ j u, news[j]? = some u → w.cell? (ad.add j) = some u) (h1 : ∀ u ∈ news, u.oneCell' = true) (hlen : n + m ≤ 100000) (hB : B ≤ w.heap.size) :
    ∃ g cap w', (Builtin.append_ #[69, 69] ty #[.slice (some ⟨E, 0, none⟩) n ec, .slice (some ad) m c]).run Tryz.prog w = .ok (.slice (some ⟨g, 0, none⟩) (n + m) cap) w' ∧ Appd B E n m xs news w g cap w' := by
  obtain ⟨i0, hi, hz0, hz1, hz2⟩ := info_parts info5
  obtain ⟨v', w', hr, h2, h3, _, h5⟩ := run_append_own_at (P := Tryz.prog) w B 69 ty 5 i0 (.int .u8 0) 1 1 Tryz.underlying69 hi hz0 hz1 hz2 rfl (by decide) _ n xs hown ad m c news (by omega) hnews h1 (by unfold maxLen; omega) (by omega) hB
  have hown' := hown
  obtain ⟨hxl, hown2⟩ := hown'
  have hf : ∃ g cap, v' = .slice (some ⟨g, 0, none⟩) (n + m) cap ∧ (g = E ∨ g = w.heap.size) := by
    rcases h2.2 with ⟨hv, _⟩ | ⟨g, cap, cur, hv, _⟩
    · rw [hv] at h5; simp [Value.ownBlock] at h5
    · rw [hv] at h5
      refine ⟨g, cap, hv, ?_⟩
      rcases h5 with h5 | h5
      · exact .inl (by simpa [Value.ownBlock] using h5)
      · exact .inr (by simpa [Value.ownBlock] using h5)
  obtain ⟨g, cap, rfl, hg⟩ := hf
  refine ⟨g, cap, w', hr, h2, h3, hg, fun i hi' => ?_⟩
  rcases hown2 with ⟨hv, _⟩ | ⟨g0, cap0, cur, hv, hb, hcur, c1, c2, c3, c4⟩
  · cases hv
  cases hv
  by_cases hroom : n + m ≤ ec
  · have hrun := run_append_room (P := Tryz.prog) w 69 ty 5 i0 Tryz.underlying69 hi E n ec cur hcur ad m c news (by rw [hz1]; omega) hnews h1 hroom (by rw [hz1]; omega)
    rw [hrun] at hr
    simp only [Result.ok.injEq] at hr
    obtain ⟨_, rfl⟩ := hr
    rw [hz1]
    have hsz : n ≤ cur.size := by omega
    rw [cell_of_row _ E i _ _ _ (setRow_heap w E cur _ 5 (0, 0) hcur), cell_of_row w E i _ _ _ hcur]
    have h3 : i < cur.size := by omega
    simp [List.getElem?_append, hi', hsz, h3]
  · obtain ⟨v2, w2, hrun, r1, r2⟩ := run_append_arg_grows (P := Tryz.prog) w 69 ty 5 i0 (.int .u8 0) 1 1 Tryz.underlying69 hi hz0 hz1 hz2 rfl (by decide) ⟨E, 0, none⟩ n ec xs (by omega) (fun j u hj => by
      rw [Addr.add_lit, cell_of_row w E _ _ _ _ hcur]
      rw [← c4, List.getElem?_take] at hj
      split at hj
      · simpa using hj
      · cases hj) ad m c news (by omega) hnews (by omega) (by unfold maxLen; omega) (by omega)
    rw [hrun] at hr
    simp only [Result.ok.injEq] at hr
    obtain ⟨_, rfl⟩ := hr
    exact World.cell?_of_block (a := ⟨E, i, none⟩) (r2.block E (lt_of_block hcur) (by simp))

section
variable {ops : Array Oper} {o : Oper} {a : Act} {Q : Exit → Act → World → Prop} {w : World}

/-- At the operation. -/
theorem wp_app {K : Act → World → Prop} (s x : Operand) (ho : o.op = .call { callee := .builtin .append, args := #[s, x], argTypes := #[69, 69] })
    {B E n ec : Nat} {xs : List Value} (hs : a.eval s = .slice (some ⟨E, 0, none⟩) n ec) (hown : w.ownsRow B 5 1 (.slice (some ⟨E, 0, none⟩) n ec) n xs) (ad : Addr) (m c : Nat) (news : List Value) (hx : a.eval x = .slice (some ad) m c)
    (hl : news.length = m) (hnews : ∀ j u, news[j]? = some u → w.cell? (ad.add j) = some u) (h1 : ∀ u ∈ news, u.oneCell' = true) (hlen : n + m ≤ 100000) (hB : B ≤ w.heap.size)
    (h : ∀ g cap w', Appd B E n m xs news w g cap w' → K (a.put o.dst (.slice (some ⟨g, 0, none⟩) (n + m) cap)) w') : Oper.wp Tryz.prog o a w K Q := by
  obtain ⟨g, cap, w', hr, h2⟩ := run_app w o.type hown ad m c news hl hnews h1 hlen hB
  unfold Oper.wp execOp
  simp only [ho, resolve, invoke, builtin, Sem.run_bind, Sem.run_pure, Result.andThen_ok, List.map_toArray, List.map_cons, List.map_nil, hs, hx, hr]
  exact h g cap w' h2

/-- At a plain region's list. -/
theorem wpList_app {rest : List Oper} (hgd : o.guard = none) (s x : Operand) (ho : o.op = .call { callee := .builtin .append, args := #[s, x], argTypes := #[69, 69] })
    {B E n ec : Nat} {xs : List Value} (hs : a.eval s = .slice (some ⟨E, 0, none⟩) n ec) (hown : w.ownsRow B 5 1 (.slice (some ⟨E, 0, none⟩) n ec) n xs) (ad : Addr) (m c : Nat) (news : List Value) (hx : a.eval x = .slice (some ad) m c)
    (hl : news.length = m) (hnews : ∀ j u, news[j]? = some u → w.cell? (ad.add j) = some u) (h1 : ∀ u ∈ news, u.oneCell' = true) (hlen : n + m ≤ 100000) (hB : B ≤ w.heap.size)
    (h : ∀ g cap w', Appd B E n m xs news w g cap w' → wpList Tryz.prog ops Q rest (a.put o.dst (.slice (some ⟨g, 0, none⟩) (n + m) cap)) w') : wpList Tryz.prog ops Q (o :: rest) a w :=
  wpList_plain hgd fun _ hK => wp_app s x ho hs hown ad m c news hx hl hnews h1 hlen hB fun g cap w' h2 => hK _ _ (h g cap w' h2)

/-- At a step of a region that draws. -/
theorem step_app {K : Act → World → Prop} {F : Prop} (hgd : o.guard = none) (s x : Operand) (ho : o.op = .call { callee := .builtin .append, args := #[s, x], argTypes := #[69, 69] })
    {B E n ec : Nat} {xs : List Value} (hs : a.eval s = .slice (some ⟨E, 0, none⟩) n ec) (hown : w.ownsRow B 5 1 (.slice (some ⟨E, 0, none⟩) n ec) n xs) (ad : Addr) (m c : Nat) (news : List Value) (hx : a.eval x = .slice (some ad) m c)
    (hl : news.length = m) (hnews : ∀ j u, news[j]? = some u → w.cell? (ad.add j) = some u) (h1 : ∀ u ∈ news, u.oneCell' = true) (hlen : n + m ≤ 100000) (hB : B ≤ w.heap.size)
    (h : ∀ g cap w', Appd B E n m xs news w g cap w' → K (a.put o.dst (.slice (some ⟨g, 0, none⟩) (n + m) cap)) w') :
    if Region.wanted o (yielded ops a.tmps) = true then Oper.wp Tryz.prog o a w K Q else F := by
  have hw : Region.wanted o (yielded ops a.tmps) = true := by simp [Region.wanted, hgd]
  rw [if_pos hw]
  exact wp_app s x ho hs hown ad m c news hx hl hnews h1 hlen hB h
end

theorem Appd.far {B E n m : Nat} {xs news : List Value} {w w' : World} {g cap : Nat} (h : Appd B E n m xs news w g cap w') {p : Addr} (hp : p.block < w.heap.size) (hE : p.block ≠ E) : w'.cell? p = w.cell? p :=
  World.cell?_of_block (h.2.1.block p.block hp (by simpa using hE))
theorem Appd.free {B E n m : Nat} {xs news : List Value} {w w' : World} {g cap : Nat} (h : Appd B E n m xs news w g cap w') {p : Addr} (hp : p.block < w.heap.size) (hE : p.block ≠ E) : w'.frozen? p = w.frozen? p :=
  World.frozen?_of_block (h.2.1.block p.block hp (by simpa using hE))

/-- The decoder behind 'd.escBuf = append(d.escBuf, ..)'. -/
theorem Rep.appended {w : World} {B D T E : Nat} {sk : Bool} {s : DSt} (H : Rep w B D T E sk s) {l : List UInt8} {m g cap : Nat} {w1 : World} (hm : m = l.length) (ha : Appd B E s.esc.length m (s.esc.map byteV) (l.map byteV) w g cap w1) (hlen : s.esc.length + l.length ≤ 2000) :
    Rep (w1.setCell ⟨D, 7, none⟩ (.slice (some ⟨g, 0, none⟩) (s.esc.length + m) cap)) B D T g sk { s with esc := s.esc ++ l } ∧ Stw s.esc.length D E w g (w1.setCell ⟨D, 7, none⟩ (.slice (some ⟨g, 0, none⟩) (s.esc.length + m) cap)) := by
  subst hm
  have hl := H.lt
  have hB3 := H.B3
  have hbD := H.bD
  have hDE := H.DE
  obtain ⟨ho, hg, hat, hk⟩ := ha
  obtain ⟨C, ec, hC, hC2, hd, hown⟩ := H.dec
  obtain ⟨tc, fr, ht, htt⟩ := H.text
  have hgD : g ≠ D := by rcases hat with e | e <;> omega
  have hgT : g ≠ T := by have := H.TE; rcases hat with e | e <;> omega
  have hD1 : w1.heap[D]? = w.heap[D]? := hg.block D hl.1 (by simpa using hDE)
  have hT1 : w1.heap[T]? = w.heap[T]? := hg.block T hl.2.1 (by simpa using H.TE)
  have hblk : ∀ k, k < w.heap.size → k ≠ D → k ≠ E → (w1.setCell ⟨D, 7, none⟩ (.slice (some ⟨g, 0, none⟩) (s.esc.length + l.length) cap)).heap[k]? = w.heap[k]? := fun k hk1 hk2 hk3 => by
    rw [heap_setCell_other w1 _ k _ hk2, hg.block k hk1 (by simpa using hk3)]
  have hB2 : 2 ≠ E := by omega
  have hB3' : 3 ≠ E := by omega
  refine ⟨⟨H.B3, H.tabs.keep (hblk 2 (by omega) (by omega) hB2) (hblk 3 (by omega) (by omega) hB3'), H.bD, H.bT, H.DT, fun e => hgD e.symm, fun e => hgT e.symm, ⟨C, cap, hC, hC2, ?_, ?_⟩, ⟨tc, fr, ?_, htt⟩, H.le1, H.small, H.sec5, H.le0, ?_, H.line0, H.line1⟩, ⟨?_, ?_, ?_, ?_, hblk, ?_, hl.2.2.1, fun i hi => ?_⟩⟩
  · unfold IsDec at hd ⊢
    rw [heap_setCell_same w1 D 7 _ _ _ (hD1.trans hd)]
    simp [decCells]
  · have e : (s.esc ++ l).length = s.esc.length + l.length := List.length_append
    show World.ownsRow _ B 5 1 (.slice (some ⟨g, 0, none⟩) (s.esc ++ l).length cap) (s.esc ++ l).length ((s.esc ++ l).map byteV)
    rw [e, List.map_append]
    obtain ⟨x1, x2⟩ := ho
    refine ⟨x1, ?_⟩
    rcases x2 with ⟨hv, _⟩ | ⟨g2, cap2, cur, hv, y1, y2, y3⟩
    · cases hv
    · cases hv
      exact .inr ⟨g, cap, cur, rfl, y1, by rw [heap_setCell_other w1 _ g _ hgD]; exact y2, y3⟩
  · rw [heap_setCell_other w1 _ T _ (fun e => H.DT e.symm), hT1]; exact ht
  · show (s.esc ++ l).length ≤ 2000
    simp; omega
  · exact hg.os
  · exact hg.tape
  · exact hg.output
  · have := hg.size; simp [World.setCell]; omega
  · rcases hat with e | e
    · exact .inl e
    · exact .inr (by omega)
  · rw [World.cell?_of_block (w := w1) (a := ⟨E, i, none⟩) (heap_setCell_other w1 _ E _ (fun e => hDE e.symm))]
    exact hk i hi
end Go.Proofs.YtejlokdcocacaaaGreatDoor
