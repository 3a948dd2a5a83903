/- The frame of the reference's Field; its part behind a value. Printed by gen_f48b.py. -/
import Derived.Test.YtejlokdcocacaaaGreatDoorKSpecT
import Derived.Test.YtejlokdcocacaaaGreatDoorKSpecM
import Derived.BigRegion
import Derived.Deep.Cut
import Derived.Deep.CutRange
namespace Go.Proofs.YtejlokdcocacaaaGreatDoor
open Go.RowKit Go.Proofs.YtejlokdcocacaaaGreatDoorW.PrintLast

theorem tok_3 : ∀ (s2 : ByteArray) (_ : s2.size ≤ 1000) (w : World), Calls Tryz.prog 132 #[.int .i64 3, .string s2] w fun e w' => e = .returned (.tuple #[.string ⟨(tok fieldKeyP tagE s2.data.toList).2.toArray⟩, .int .i64 ((tok fieldKeyP tagE s2.data.toList).1 : Int)]) ∧ Below w.heap.size w w' :=
  fun s2 hs w => token_spec 3 7 escaped_3 setOf_3 in_7 (fun c hc => (tagE_ok c hc).1) s2 hs w
theorem tok_4 : ∀ (s2 : ByteArray) (_ : s2.size ≤ 1000) (w : World), Calls Tryz.prog 132 #[.int .i64 4, .string s2] w fun e w' => e = .returned (.tuple #[.string ⟨(tok strValP strE s2.data.toList).2.toArray⟩, .int .i64 ((tok strValP strE s2.data.toList).1 : Int)]) ∧ Below w.heap.size w w' :=
  fun s2 hs w => token_spec 4 8 escaped_4 setOf_4 in_8 (fun c hc => (strE_ok c hc).1) s2 hs w

section
variable {w0 w : World} {R : Nat} {s : ByteArray} {i p fr V : Nat} {b : Bool} {G t : Nat} {o0 o1 o2 : Value}
theorem Sg.set0 (h : Sg w0 R s i p fr V b G t #[o0, o1, o2] w) (u : Value) : Sg w0 R s i p fr V b G t #[u, o1, o2] (w.setCell ⟨G, 0, none⟩ u) := h.cellG 0 u
theorem Sg.set1 (h : Sg w0 R s i p fr V b G t #[o0, o1, o2] w) (u : Value) : Sg w0 R s i p fr V b G t #[o0, u, o2] (w.setCell ⟨G, 1, none⟩ u) := h.cellG 1 u
theorem Sg.set2 (h : Sg w0 R s i p fr V b G t #[o0, o1, o2] w) (u : Value) : Sg w0 R s i p fr V b G t #[o0, o1, u] (w.setCell ⟨G, 2, none⟩ u) := h.cellG 2 u
end


section
theorem put_getD {a : Act} {d s : Nat} {v : Value} (h : d ≠ s) : (a.put (some d) v).tmps.getD s undef = a.tmps.getD s undef := by
  simp [Act.put, h]
theorem put_getD_same {a : Act} {d : Nat} {v : Value} (h : d < a.tmps.size) : (a.put (some d) v).tmps.getD d undef = v := by
  simp [Act.put, h]
theorem end48_49 {Q : Exit → Act → World → Prop} {a : Act} {w : World} {G V : Nat} {cs : Array Value} {b : Bool} {x y : Int}
    (hQ : ∀ (d : Tmp) (v : Value) (c : List PanicEntry) (a : Act) (w : World), Q (.panic c) (a.put (some d) v) w → Q (.panic c) a w) (hsz : a.tmps.size = 265)
    (h2 : a.tmps.getD 2 undef = .pointer (some ⟨G, 0, none⟩)) (h4 : a.tmps.getD 4 undef = .pointer (some ⟨V, 0, none⟩))
    (hG : w.heap[G]? = some (.cells cs 50 (0, 0))) (hc : cs.size = 3) (h1 : cs.all (·.oneCell') = true) (hV : w.heap[V]? = some (.cells (F37 b x y) 37 (0, 0))) (hVG : V ≠ G)
    (hend : ∀ A : Act, A.tmps.getD 2 undef = .pointer (some ⟨G, 0, none⟩) → A.tmps.getD 3 undef = .bool true → A.tmps.getD 4 undef = .pointer (some ⟨V, 0, none⟩) → A.defers = a.defers → Q .normal A ((w.drew.setRow G cs).setRow V (F37 b x y))) :
    (Code.region 49 ops48_49 true).wp Tryz.prog Q a w := by
  refine region48_49 hQ hsz (by simpa [Act.eval] using h2) (by simpa [Act.eval] using h4) hG hc h1 hV hVG (hend _ ?_ ?_ ?_ rfl)
  · simp only [putAll]
    rw [put_getD (by decide), put_getD (by decide), put_getD (by decide)]
    exact h2
  · simp only [putAll]
    exact put_getD_same (by rw [put_size, put_size, hsz]; decide)
  · simp only [putAll]
    rw [put_getD (by decide), put_getD (by decide), put_getD (by decide)]
    exact h4
theorem end48_7 {Q : Exit → Act → World → Prop} {a : Act} {w : World} {G V : Nat} {old : Array Value} {b : Bool} {x y : Int}
    (hQ : ∀ (d : Tmp) (v : Value) (c : List PanicEntry) (a : Act) (w : World), Q (.panic c) (a.put (some d) v) w → Q (.panic c) a w) (hsz : a.tmps.size = 265)
    (h2 : a.tmps.getD 2 undef = .pointer (some ⟨G, 0, none⟩)) (h4 : a.tmps.getD 4 undef = .pointer (some ⟨V, 0, none⟩))
    (hG : w.heap[G]? = some (.cells old 50 (0, 0))) (ho : old.size = 3) (hV : w.heap[V]? = some (.cells (F37 b x y) 37 (0, 0))) (hVG : V ≠ G)
    (hend : ∀ A : Act, A.tmps.getD 2 undef = .pointer (some ⟨G, 0, none⟩) → A.tmps.getD 3 undef = .bool false → A.tmps.getD 4 undef = .pointer (some ⟨V, 0, none⟩) → A.defers = a.defers → Q .normal A ((w.drew.setRow G #[.string ⟨#[]⟩, .int .i64 0, .string ⟨#[]⟩]).setRow V (F37 b x y))) :
    (Code.region 7 ops48_7 true).wp Tryz.prog Q a w := by
  refine region48_7 hQ hsz (by simpa [Act.eval] using h2) (by simpa [Act.eval] using h4) hG ho hV hVG (hend _ ?_ ?_ ?_ rfl)
  · simp only [putAll]
    rw [put_getD (by decide), put_getD (by decide), put_getD (by decide)]
    exact h2
  · simp only [putAll]
    exact put_getD_same (by rw [put_size, put_size, hsz]; decide)
  · simp only [putAll]
    rw [put_getD (by decide), put_getD (by decide), put_getD (by decide)]
    exact h4
theorem end48_23 {Q : Exit → Act → World → Prop} {a : Act} {w : World} {G V : Nat} {old : Array Value} {b : Bool} {x y : Int}
    (hQ : ∀ (d : Tmp) (v : Value) (c : List PanicEntry) (a : Act) (w : World), Q (.panic c) (a.put (some d) v) w → Q (.panic c) a w) (hsz : a.tmps.size = 265)
    (h2 : a.tmps.getD 2 undef = .pointer (some ⟨G, 0, none⟩)) (h4 : a.tmps.getD 4 undef = .pointer (some ⟨V, 0, none⟩))
    (hG : w.heap[G]? = some (.cells old 50 (0, 0))) (ho : old.size = 3) (hV : w.heap[V]? = some (.cells (F37 b x y) 37 (0, 0))) (hVG : V ≠ G)
    (hend : ∀ A : Act, A.tmps.getD 2 undef = .pointer (some ⟨G, 0, none⟩) → A.tmps.getD 3 undef = .bool false → A.tmps.getD 4 undef = .pointer (some ⟨V, 0, none⟩) → A.defers = a.defers → Q .normal A ((w.drew.setRow G #[.string ⟨#[]⟩, .int .i64 0, .string ⟨#[]⟩]).setRow V (F37 b x y))) :
    (Code.region 23 ops48_23 true).wp Tryz.prog Q a w := by
  refine region48_23 hQ hsz (by simpa [Act.eval] using h2) (by simpa [Act.eval] using h4) hG ho hV hVG (hend _ ?_ ?_ ?_ rfl)
  · simp only [putAll]
    rw [put_getD (by decide), put_getD (by decide), put_getD (by decide)]
    exact h2
  · simp only [putAll]
    exact put_getD_same (by rw [put_size, put_size, hsz]; decide)
  · simp only [putAll]
    rw [put_getD (by decide), put_getD (by decide), put_getD (by decide)]
    exact h4
end


theorem run_one {s : ByteArray} {i : Nat} {f : Nat → Bool} (h : i < s.size) (hf : f (s[i]).toNat = true) : 1 ≤ runN f s i := by
  have hn : nextIs f s i = true := by unfold nextIs; rw [dif_pos h]; exact hf
  have := (runN_succ hn).2
  omega
theorem num_val {c : UInt8} (h1 : 48 ≤ c.toNat) (h2 : c.toNat ≤ 57) : fieldValP c.toNat = true := by
  unfold fieldValP
  simp
  omega

theorem frame_out (a : Act) {n : Nat} (h : a.tmps.size = n) : a = ⟨((List.range n).map fun i => a.tmps.getD i undef).toArray, a.defers⟩ := by
  obtain ⟨t, d⟩ := a
  simp only [Act.mk.injEq, and_true]
  apply Array.ext
  · simpa using h
  · intro i h1 h2
    simp [Array.getD, h1]

/-- A frame of f48 whose slots 0, 2, 4 are known. -/
structure Fr48 (R G V : Nat) (a : Act) : Prop where
  size : a.tmps.size = 265
  t0 : a.tmps.getD 0 undef = .pointer (some ⟨R, 0, none⟩)
  t2 : a.tmps.getD 2 undef = .pointer (some ⟨G, 0, none⟩)
  t4 : a.tmps.getD 4 undef = .pointer (some ⟨V, 0, none⟩)
  dfs : a.defers = []

set_option maxRecDepth 100000 in
theorem Fr48.elim {P : Act → Prop} {R G V : Nat} (h : ∀ u1 u3 u5 u6 u7 u8 u9 u10 u11 u12 u13 u14 u15 u16 u17 u18 u19 u20 u21 u22 u23 u24 u25 u26 u27 u28 u29 u30 u31 u32 u33 u34 u35 u36 u37 u38 u39 u40 u41 u42 u43 u44 u45 u46 u47 u48 u49 u50 u51 u52 u53 u54 u55 u56 u57 u58 u59 u60 u61 u62 u63 u64 u65 u66 u67 u68 u69 u70 u71 u72 u73 u74 u75 u76 u77 u78 u79 u80 u81 u82 u83 u84 u85 u86 u87 u88 u89 u90 u91 u92 u93 u94 u95 u96 u97 u98 u99 u100 u101 u102 u103 u104 u105 u106 u107 u108 u109 u110 u111 u112 u113 u114 u115 u116 u117 u118 u119 u120 u121 u122 u123 u124 u125 u126 u127 u128 u129 u130 u131 u132 u133 u134 u135 u136 u137 u138 u139 u140 u141 u142 u143 u144 u145 u146 u147 u148 u149 u150 u151 u152 u153 u154 u155 u156 u157 u158 u159 u160 u161 u162 u163 u164 u165 u166 u167 u168 u169 u170 u171 u172 u173 u174 u175 u176 u177 u178 u179 u180 u181 u182 u183 u184 u185 u186 u187 u188 u189 u190 u191 u192 u193 u194 u195 u196 u197 u198 u199 u200 u201 u202 u203 u204 u205 u206 u207 u208 u209 u210 u211 u212 u213 u214 u215 u216 u217 u218 u219 u220 u221 u222 u223 u224 u225 u226 u227 u228 u229 u230 u231 u232 u233 u234 u235 u236 u237 u238 u239 u240 u241 u242 u243 u244 u245 u246 u247 u248 u249 u250 u251 u252 u253 u254 u255 u256 u257 u258 u259 u260 u261 u262 u263 u264 : Value, P ⟨(.pointer (some ⟨R, 0, none⟩) :: u1 :: .pointer (some ⟨G, 0, none⟩) :: u3 :: .pointer (some ⟨V, 0, none⟩) :: u5 :: u6 :: u7 :: u8 :: u9 :: u10 :: u11 :: u12 :: u13 :: u14 :: u15 :: u16 :: u17 :: u18 :: u19 :: u20 :: u21 :: u22 :: u23 :: u24 :: u25 :: u26 :: u27 :: u28 :: u29 :: u30 :: u31 :: u32 :: u33 :: u34 :: u35 :: u36 :: u37 :: u38 :: u39 :: u40 :: u41 :: u42 :: u43 :: u44 :: u45 :: u46 :: u47 :: u48 :: u49 :: u50 :: u51 :: u52 :: u53 :: u54 :: u55 :: u56 :: u57 :: u58 :: u59 :: u60 :: u61 :: u62 :: u63 :: u64 :: u65 :: u66 :: u67 :: u68 :: u69 :: u70 :: u71 :: u72 :: u73 :: u74 :: u75 :: u76 :: u77 :: u78 :: u79 :: u80 :: u81 :: u82 :: u83 :: u84 :: u85 :: u86 :: u87 :: u88 :: u89 :: u90 :: u91 :: u92 :: u93 :: u94 :: u95 :: u96 :: u97 :: u98 :: u99 :: u100 :: u101 :: u102 :: u103 :: u104 :: u105 :: u106 :: u107 :: u108 :: u109 :: u110 :: u111 :: u112 :: u113 :: u114 :: u115 :: u116 :: u117 :: u118 :: u119 :: u120 :: u121 :: u122 :: u123 :: u124 :: u125 :: u126 :: u127 :: u128 :: u129 :: u130 :: u131 :: u132 :: u133 :: u134 :: u135 :: u136 :: u137 :: u138 :: u139 :: u140 :: u141 :: u142 :: u143 :: u144 :: u145 :: u146 :: u147 :: u148 :: u149 :: u150 :: u151 :: u152 :: u153 :: u154 :: u155 :: u156 :: u157 :: u158 :: u159 :: u160 :: u161 :: u162 :: u163 :: u164 :: u165 :: u166 :: u167 :: u168 :: u169 :: u170 :: u171 :: u172 :: u173 :: u174 :: u175 :: u176 :: u177 :: u178 :: u179 :: u180 :: u181 :: u182 :: u183 :: u184 :: u185 :: u186 :: u187 :: u188 :: u189 :: u190 :: u191 :: u192 :: u193 :: u194 :: u195 :: u196 :: u197 :: u198 :: u199 :: u200 :: u201 :: u202 :: u203 :: u204 :: u205 :: u206 :: u207 :: u208 :: u209 :: u210 :: u211 :: u212 :: u213 :: u214 :: u215 :: u216 :: u217 :: u218 :: u219 :: u220 :: u221 :: u222 :: u223 :: u224 :: u225 :: u226 :: u227 :: u228 :: u229 :: u230 :: u231 :: u232 :: u233 :: u234 :: u235 :: u236 :: u237 :: u238 :: u239 :: u240 :: u241 :: u242 :: u243 :: u244 :: u245 :: u246 :: u247 :: u248 :: u249 :: u250 :: u251 :: u252 :: u253 :: u254 :: u255 :: u256 :: u257 :: u258 :: u259 :: u260 :: u261 :: u262 :: u263 :: u264 :: []).toArray, []⟩) {a : Act} (ha : Fr48 R G V a) : P a := by
  obtain ⟨hsz, h0, h2, h4, hd⟩ := ha
  have e := frame_out a hsz
  rw [hd] at e
  generalize hg : (fun i => a.tmps.getD i undef) = g at e
  have h0' : g 0 = _ := (congrFun hg 0).symm.trans h0
  have h2' : g 2 = _ := (congrFun hg 2).symm.trans h2
  have h4' : g 4 = _ := (congrFun hg 4).symm.trans h4
  have hh := h (g 1) (g 3) (g 5) (g 6) (g 7) (g 8) (g 9) (g 10) (g 11) (g 12) (g 13) (g 14) (g 15) (g 16) (g 17) (g 18) (g 19) (g 20) (g 21) (g 22) (g 23) (g 24) (g 25) (g 26) (g 27) (g 28) (g 29) (g 30) (g 31) (g 32) (g 33) (g 34) (g 35) (g 36) (g 37) (g 38) (g 39) (g 40) (g 41) (g 42) (g 43) (g 44) (g 45) (g 46) (g 47) (g 48) (g 49) (g 50) (g 51) (g 52) (g 53) (g 54) (g 55) (g 56) (g 57) (g 58) (g 59) (g 60) (g 61) (g 62) (g 63) (g 64) (g 65) (g 66) (g 67) (g 68) (g 69) (g 70) (g 71) (g 72) (g 73) (g 74) (g 75) (g 76) (g 77) (g 78) (g 79) (g 80) (g 81) (g 82) (g 83) (g 84) (g 85) (g 86) (g 87) (g 88) (g 89) (g 90) (g 91) (g 92) (g 93) (g 94) (g 95) (g 96) (g 97) (g 98) (g 99) (g 100) (g 101) (g 102) (g 103) (g 104) (g 105) (g 106) (g 107) (g 108) (g 109) (g 110) (g 111) (g 112) (g 113) (g 114) (g 115) (g 116) (g 117) (g 118) (g 119) (g 120) (g 121) (g 122) (g 123) (g 124) (g 125) (g 126) (g 127) (g 128) (g 129) (g 130) (g 131) (g 132) (g 133) (g 134) (g 135) (g 136) (g 137) (g 138) (g 139) (g 140) (g 141) (g 142) (g 143) (g 144) (g 145) (g 146) (g 147) (g 148) (g 149) (g 150) (g 151) (g 152) (g 153) (g 154) (g 155) (g 156) (g 157) (g 158) (g 159) (g 160) (g 161) (g 162) (g 163) (g 164) (g 165) (g 166) (g 167) (g 168) (g 169) (g 170) (g 171) (g 172) (g 173) (g 174) (g 175) (g 176) (g 177) (g 178) (g 179) (g 180) (g 181) (g 182) (g 183) (g 184) (g 185) (g 186) (g 187) (g 188) (g 189) (g 190) (g 191) (g 192) (g 193) (g 194) (g 195) (g 196) (g 197) (g 198) (g 199) (g 200) (g 201) (g 202) (g 203) (g 204) (g 205) (g 206) (g 207) (g 208) (g 209) (g 210) (g 211) (g 212) (g 213) (g 214) (g 215) (g 216) (g 217) (g 218) (g 219) (g 220) (g 221) (g 222) (g 223) (g 224) (g 225) (g 226) (g 227) (g 228) (g 229) (g 230) (g 231) (g 232) (g 233) (g 234) (g 235) (g 236) (g 237) (g 238) (g 239) (g 240) (g 241) (g 242) (g 243) (g 244) (g 245) (g 246) (g 247) (g 248) (g 249) (g 250) (g 251) (g 252) (g 253) (g 254) (g 255) (g 256) (g 257) (g 258) (g 259) (g 260) (g 261) (g 262) (g 263) (g 264)
  rw [← h0', ← h2', ← h4'] at hh
  rw [e]
  exact hh

noncomputable def cfst : Code → Code
  | .seq a _ => a
  | c => c
noncomputable def csnd : Code → Code
  | .seq _ b => b
  | c => c
/-- Field from the value's first byte on. -/
noncomputable def z48 : Code := csnd (csnd (csnd (csnd (csnd (csnd (csnd (csnd (csnd (Tryz.f48.body.getD .skip)))))))))
/-- Field behind the value. -/
noncomputable def tail48 : Code := csnd z48
noncomputable def sw48 : Code := cfst (cfst z48)
noncomputable def swb48 : Code := csnd (cfst z48)

theorem reseq {P : Program} {x y : Code} {Q : Exit → Act → World → Prop} {K : Act → World → Prop} {a : Act} {w : World} (h : ∀ a w, y.wp P Q a w → K a w) (hx : x.wp P (Exit.then (y.wp P Q) Q) a w) : x.wp P (Exit.then K Q) a w :=
  wp_mono hx fun e a w hq => by cases e <;> first | exact h _ _ hq | exact hq
theorem unseq {P : Program} {x y : Code} {Q : Exit → Act → World → Prop} {a : Act} {w : World} (h : ∀ K : Act → World → Prop, (∀ a w, y.wp P Q a w → K a w) → x.wp P (Exit.then K Q) a w) : x.wp P (Exit.then (y.wp P Q) Q) a w := h _ fun _ _ h => h

set_option maxHeartbeats 100000000 in
set_option maxRecDepth 100000 in
theorem field_tail {w wc : World} {R : Nat} {s : ByteArray} {j fr V G : Nat} {m d : MSt} {key raw : ByteArray} {kd : Int} (hs : s.size ≤ 1000) (hjf : fr ≤ j)
    (HSC : Hid (Sg w R s j 2 fr V false G 50 #[.string key, .int .i64 kd, .string raw] wc)) (HSPD : Hid (Sp s j 2 d)) (HON : Hid (OnF m d)) {a : Act} (ha : Fr48 R G V a) :
    tail48.wp Tryz.prog (bodyPost Tryz.prog Tryz.f48 (FieldP R s w (mField m).1 (mField m).2.bad (mField m).2.got fr)) a wc := by
  refine Fr48.elim (P := fun a => tail48.wp Tryz.prog _ a wc) ?_ ha
  intros
  conv => enter [2]; whnf
  have hjs := HSPD.out.2.1
  have HD := hid (done_spec HSC.out.sv.rd (by omega) hjs)
  by_cases hd : s.size ≤ j
  · rw [decide_eq_true hd] at HD
    obtain ⟨X, hbh, hsp⟩ := on_done HSPD.out hd
    have HMT := hid (HON.out.ok hbh)
    have HSP := hid hsp
    clear hbh hsp hd
    go_wp2_with fail
    refine HD.out.mono ?_
    rintro e w20 ⟨rfl, n, rfl⟩
    have HS20 := hid (HSC.out.drewN n)
    generalize wc.drewN n = w20 at HS20 ⊢
    clear HD HSC
    obtain ⟨c0, c1, c2, c3, fz⟩ := HS20.out.sv.rd.cells
    have hR20 := lt_of_block HS20.out.sv.rd
    have hs21 := HS20.out.part 5
    clear c0 c1 c3
    go_upto_region 49 with fail
    obtain ⟨w21, hw21⟩ : ∃ w21, w20.setCell ⟨R, 2, none⟩ (.int .i64 ((5 : Nat) : Int)) = w21 := ⟨_, rfl⟩
    change Code.wp _ _ _ _ (w20.setCell ⟨R, 2, none⟩ (.int .i64 ((5 : Nat) : Int)))
    rw [hw21] at hs21 ⊢
    have HS21 := hid hs21
    obtain ⟨x21, y21, hr21⟩ := HS21.out.sv.row
    have n0 : w21.cell? ⟨V, 0, none⟩ = some (.bool false) := cell_of_row w21 V 0 _ _ _ hr21
    have HROW21 := hid hr21
    clear hr21
    clear hw21 hs21 c2 fz HS20
    refine end48_49 (G := G) (V := V) (cs := #[.string key, .int .i64 kd, .string raw]) (b := false) (x := x21) (y := y21) (fun _ _ _ _ _ h => h) rfl rfl rfl HS21.out.row rfl (by simp [Value.oneCell']) HROW21.out (fun e => HS21.out.gv e.symm) ?_
    intro A hA2 hA3 hA4 hAd
    have HR1 := (HS21.out.drew.setG #[.string key, .int .i64 kd, .string raw]).store false x21 y21
    have hz : ((w21.drew.setRow G #[.string key, .int .i64 kd, .string raw]).setRow V (F37 false x21 y21)).heap[V]? = some (.cells (F37 false x21 y21) 37 (0, 0)) := setRow_heap _ _ _ _ _ _ ((setRow_other _ _ _ _ (fun e => HS21.out.gv e.symm)).trans HROW21.out)
    change (_ : Act → World → Prop) _ _
    refine ‹∀ (a : Act) (w : World), Code.wp Tryz.prog _ _ a w → _› _ _ ?_
    refine wp_ret ?_
    change bodyPost Tryz.prog Tryz.f48 (FieldP R s w (mField m).1 (mField m).2.bad (mField m).2.got fr) .ret _ _
    refine bodyPost_ret (res_ctc50 rfl hA2 hA3 hA4 HR1.row hz rfl rfl) hAd ?_
    rw [HMT.out.1, HMT.out.2.1, HMT.out.2.2]
    exact FieldP.mk HSP.out (by omega) HR1 _ _ _ _ _ _ _
  · rw [decide_eq_false hd] at HD
    have hd3 : j < s.size := by omega
    have hd1 : (j : Int) < (s.size : Int) := by omega
    clear hd
    by_cases h44 : s[j] = 44
    · have e44 : ((s[j].toNat : Int) == 44) = true := by rw [h44]; rfl
      obtain ⟨X, hbh, hsp⟩ := on_comma HSPD.out hd3 h44
      have HMT := hid (HON.out.ok hbh)
      have HSP := hid hsp
      clear hbh hsp h44
      go_wp2_with fail
      refine HD.out.mono ?_
      rintro e w20 ⟨rfl, n, rfl⟩
      have HS20 := hid (HSC.out.drewN n)
      generalize wc.drewN n = w20 at HS20 ⊢
      clear HD HSC
      obtain ⟨c0, c1, c2, c3, fz⟩ := HS20.out.sv.rd.cells
      have hR20 := lt_of_block HS20.out.sv.rd
      clear c2 c3
      go_upto_region 45 with fail
      go_quiet (fail)
      clear e44 c0 c1 fz
      have HS21 := hid (HS20.out.drewN nq)
      generalize w20.drewN nq = w21 at HS21 ⊢
      clear HS20
      obtain ⟨c0, c1, c2, c3, fz⟩ := HS21.out.sv.rd.cells
      have hR21 := lt_of_block HS21.out.sv.rd
      have hs22 := HS21.out.place (j + 1)
      have hj1 : (j : Int) + 1 ≤ 1000 := by omega
      clear c0 c2 c3
      go_upto_region 49 with fail
      obtain ⟨w22, hw22⟩ : ∃ w22, w21.setCell ⟨R, 1, none⟩ (.int .i64 ((j + 1 : Nat) : Int)) = w22 := ⟨_, rfl⟩
      change Code.wp _ _ _ _ (w21.setCell ⟨R, 1, none⟩ (.int .i64 ((j + 1 : Nat) : Int)))
      rw [hw22] at hs22 ⊢
      have HS22 := hid hs22
      obtain ⟨x22, y22, hr22⟩ := HS22.out.sv.row
      have n0 : w22.cell? ⟨V, 0, none⟩ = some (.bool false) := cell_of_row w22 V 0 _ _ _ hr22
      have HROW22 := hid hr22
      clear hr22
      clear hw22 hs22 c1 fz HS21
      refine end48_49 (G := G) (V := V) (cs := #[.string key, .int .i64 kd, .string raw]) (b := false) (x := x22) (y := y22) (fun _ _ _ _ _ h => h) rfl rfl rfl HS22.out.row rfl (by simp [Value.oneCell']) HROW22.out (fun e => HS22.out.gv e.symm) ?_
      intro A hA2 hA3 hA4 hAd
      have HR1 := (HS22.out.drew.setG #[.string key, .int .i64 kd, .string raw]).store false x22 y22
      have hz : ((w22.drew.setRow G #[.string key, .int .i64 kd, .string raw]).setRow V (F37 false x22 y22)).heap[V]? = some (.cells (F37 false x22 y22) 37 (0, 0)) := setRow_heap _ _ _ _ _ _ ((setRow_other _ _ _ _ (fun e => HS22.out.gv e.symm)).trans HROW22.out)
      change (_ : Act → World → Prop) _ _
      refine ‹∀ (a : Act) (w : World), Code.wp Tryz.prog _ _ a w → _› _ _ ?_
      refine wp_ret ?_
      change bodyPost Tryz.prog Tryz.f48 (FieldP R s w (mField m).1 (mField m).2.bad (mField m).2.got fr) .ret _ _
      refine bodyPost_ret (res_ctc50 rfl hA2 hA3 hA4 HR1.row hz rfl rfl) hAd ?_
      rw [HMT.out.1, HMT.out.2.1, HMT.out.2.2]
      exact FieldP.mk HSP.out (by omega) HR1 _ _ _ _ _ _ _
    · have e44 : ((s[j].toNat : Int) == 44) = false := u8_ne 44 (by omega) h44
      cases hw : nextIs whiteP s j
      · obtain ⟨f, X, hbh, hsp⟩ := on_bad HSPD.out hd3 h44 hw
        have HMT := hid (HON.out.err hbh)
        have HSP := hid hsp
        have HN := hid (fun w9 (h9 : Sg w R s j 2 fr V false G 50 #[.string key, .int .i64 kd, .string raw] w9) => next_spec h9.sv.rd (fun x w => in_1 x w))
        rw [hw] at HN
        clear hbh hsp h44 hw
        go_wp2_with fail
        refine HD.out.mono ?_
        rintro e w20 ⟨rfl, n, rfl⟩
        have HS20 := hid (HSC.out.drewN n)
        generalize wc.drewN n = w20 at HS20 ⊢
        clear HD HSC
        obtain ⟨c0, c1, c2, c3, fz⟩ := HS20.out.sv.rd.cells
        have hR20 := lt_of_block HS20.out.sv.rd
        clear c2 c3
        go_upto_region 45 with fail
        go_quiet (fail)
        clear e44 c0 c1 fz
        have HS21 := hid (HS20.out.drewN nq)
        generalize w20.drewN nq = w21 at HS21 ⊢
        clear HS20
        have HN2 := hid (HN.out _ HS21.out)
        clear HN
        go_wp2_with fail
        refine HN2.out.mono ?_
        rintro e w22 ⟨rfl, n2, rfl⟩
        have HS22 := hid (HS21.out.drewN n2)
        generalize w21.drewN n2 = w22 at HS22 ⊢
        clear HN2 HS21
        obtain ⟨c0, c1, c2, c3, fz⟩ := HS22.out.sv.rd.cells
        have hR22 := lt_of_block HS22.out.sv.rd
        clear c0 c2 c3
        have hft := fault4 HS22.out.sv.rd hs (by omega) j hjs (by omega)
        have HFT := hid hft
        clear hft
        go_wp2_with fail
        refine HFT.out.mono ?_
        rintro e wz ⟨⟨xz, yz, rfl⟩, hrz, hfz⟩
        have HSZ := hid (HS22.out.call hrz hfz)
        have HGZ := hid HSZ.out.row
        have hvz : (wz.setRow G #[.string ⟨#[]⟩, .int .i64 0, .string ⟨#[]⟩]).heap[V]? = some (.cells (F37 false (HSZ.out.sv.row.choose) (HSZ.out.sv.row.choose_spec.choose)) 37 (0, 0)) := (setRow_other _ _ _ _ (fun e => HSZ.out.gv e.symm)).trans HSZ.out.sv.row.choose_spec.choose_spec
        have HVZ := hid hvz
        clear hrz hfz HFT hvz HS22
        go_wp2_with (first | (refine wpList_store_row (o := ⟨none, .store 50 (.tmp 2) (.tmp 256), _, _, _, _⟩) rfl 50 _ _ rfl G #[.string ⟨#[]⟩, .int .i64 0, .string ⟨#[]⟩] rfl rfl 50 _ HGZ.out info50s rfl (by simp [Value.oneCell']) ?_) | (refine wpList_store_row (o := ⟨none, .store 37 (.tmp 4) (.tmp 262), _, _, _, _⟩) rfl 37 _ _ rfl V (F37 true xz yz) rfl rfl 37 _ HVZ.out info37t rfl (by simp [F37, Value.oneCell']) ?_))
        have HR0 := (HSZ.out.setG #[.string ⟨#[]⟩, .int .i64 0, .string ⟨#[]⟩]).store true xz yz
        refine bodyPost_ret (res_ctc50 rfl rfl rfl rfl HR0.row (setRow_heap _ _ _ _ _ _ HVZ.out) rfl rfl) rfl ?_
        rw [HMT.out.1, HMT.out.2.1, HMT.out.2.2]
        exact FieldP.mk HSP.out (by omega) HR0 _ _ _ _ _ _ _
      · have HN := hid (fun w9 (h9 : Sg w R s j 2 fr V false G 50 #[.string key, .int .i64 kd, .string raw] w9) => next_spec h9.sv.rd (fun x w => in_1 x w))
        rw [hw] at HN
        obtain ⟨j2, hj2⟩ : ∃ j2, j + runN blankP s j = j2 := ⟨_, rfl⟩
        have hj2c : j2 ≤ s.size := by rw [← hj2]; exact runN_le hjs
        have hj2b : j ≤ j2 := by omega
        obtain ⟨le, hle2⟩ : ∃ le, lineEnd (restOf s j2) = le := ⟨_, rfl⟩
        obtain ⟨X, hbh, hsp⟩ := on_end HSPD.out hd3 h44 hw hj2 hle2
        have hle := lineEnd_spec (s.extract j2 s.size) (by rw [ByteArray.size_extract]; omega)
        rw [extract_rest, hle2] at hle
        have HMT := hid (HON.out.ok hbh)
        have HSP := hid hsp
        have HJ2 := hid hj2
        obtain ⟨ln, lb⟩ := le
        have HLE := hid hle
        clear hbh hsp h44 hw hj2 hle2 hle
        go_wp2_with fail
        refine HD.out.mono ?_
        rintro e w20 ⟨rfl, n, rfl⟩
        have HS20 := hid (HSC.out.drewN n)
        generalize wc.drewN n = w20 at HS20 ⊢
        clear HD HSC
        obtain ⟨c0, c1, c2, c3, fz⟩ := HS20.out.sv.rd.cells
        have hR20 := lt_of_block HS20.out.sv.rd
        clear c2 c3
        go_upto_region 45 with fail
        go_quiet (fail)
        clear e44 c0 c1 fz
        have HS21 := hid (HS20.out.drewN nq)
        generalize w20.drewN nq = w21 at HS21 ⊢
        clear HS20
        have HN2 := hid (HN.out _ HS21.out)
        clear HN
        go_wp2_with fail
        refine HN2.out.mono ?_
        rintro e w22 ⟨rfl, n2, rfl⟩
        have HS22 := hid (HS21.out.drewN n2)
        generalize w21.drewN n2 = w22 at HS22 ⊢
        clear HN2 HS21
        have hrun := run_spec (f := blankP) (j := 0) HS22.out.sv.rd hs hjs in_0
        rw [HJ2.out] at hrun
        have HRUN := hid hrun
        clear hrun
        go_wp2_with fail
        refine HRUN.out.mono ?_
        rintro e w23 ⟨rfl, hr23, hf23⟩
        have HS23 := hid (HS22.out.call hr23 hf23)
        obtain ⟨c0, c1, c2, c3, fz⟩ := HS23.out.sv.rd.cells
        have hj2d : (j2 : Int) ≤ (s.size : Int) := by omega
        have hR23 := lt_of_block HS23.out.sv.rd
        clear hr23 hf23 HRUN HS22 c2 c3
        go_upto_region 38 with fail
        go_quiet ((go_at_call 93; exact Calls.quiet_of_same (HLE.out _)))
        clear c0 c1 fz HLE
        have HS24 := hid (HS23.out.drewN nq)
        generalize w23.drewN nq = w24 at HS24 ⊢
        clear HS23
        obtain ⟨c0, c1, c2, c3, fz⟩ := HS24.out.sv.rd.cells
        have hR24 := lt_of_block HS24.out.sv.rd
        clear c0 c3
        have hln : (j2 : Int) + (ln : Int) ≤ 1000 := by have h9 : j2 + ln ≤ s.size := HSP.out.2.1; omega
        cases lb
        · have hs25 := (HS24.out.place (j2 + ln)).part 3
          go_upto_region 49 with fail
          obtain ⟨w25, hw25⟩ : ∃ w25, (w24.setCell ⟨R, 1, none⟩ (.int .i64 ((j2 + ln : Nat) : Int))).setCell ⟨R, 2, none⟩ (.int .i64 ((3 : Nat) : Int)) = w25 := ⟨_, rfl⟩
          change Code.wp _ _ _ _ ((w24.setCell ⟨R, 1, none⟩ (.int .i64 ((j2 + ln : Nat) : Int))).setCell ⟨R, 2, none⟩ (.int .i64 ((3 : Nat) : Int)))
          rw [hw25] at hs25 ⊢
          have HS25 := hid hs25
          obtain ⟨x25, y25, hr25⟩ := HS25.out.sv.row
          have n0 : w25.cell? ⟨V, 0, none⟩ = some (.bool false) := cell_of_row w25 V 0 _ _ _ hr25
          have HROW25 := hid hr25
          clear hr25
          clear hw25 hs25 c1 c2 fz HS24
          refine end48_49 (G := G) (V := V) (cs := #[.string key, .int .i64 kd, .string raw]) (b := false) (x := x25) (y := y25) (fun _ _ _ _ _ h => h) rfl rfl rfl HS25.out.row rfl (by simp [Value.oneCell']) HROW25.out (fun e => HS25.out.gv e.symm) ?_
          intro A hA2 hA3 hA4 hAd
          have HR1 := (HS25.out.drew.setG #[.string key, .int .i64 kd, .string raw]).store false x25 y25
          have hz : ((w25.drew.setRow G #[.string key, .int .i64 kd, .string raw]).setRow V (F37 false x25 y25)).heap[V]? = some (.cells (F37 false x25 y25) 37 (0, 0)) := setRow_heap _ _ _ _ _ _ ((setRow_other _ _ _ _ (fun e => HS25.out.gv e.symm)).trans HROW25.out)
          change (_ : Act → World → Prop) _ _
          refine ‹∀ (a : Act) (w : World), Code.wp Tryz.prog _ _ a w → _› _ _ ?_
          refine wp_ret ?_
          change bodyPost Tryz.prog Tryz.f48 (FieldP R s w (mField m).1 (mField m).2.bad (mField m).2.got fr) .ret _ _
          refine bodyPost_ret (res_ctc50 rfl hA2 hA3 hA4 HR1.row hz rfl rfl) hAd ?_
          rw [HMT.out.1, HMT.out.2.1, HMT.out.2.2]
          exact FieldP.mk HSP.out (by omega) HR1 _ _ _ _ _ _ _
        · have hs25 := ((HS24.out.place (j2 + ln)).part 3).part 5
          go_upto_region 49 with fail
          obtain ⟨w25, hw25⟩ : ∃ w25, ((w24.setCell ⟨R, 1, none⟩ (.int .i64 ((j2 + ln : Nat) : Int))).setCell ⟨R, 2, none⟩ (.int .i64 ((3 : Nat) : Int))).setCell ⟨R, 2, none⟩ (.int .i64 ((5 : Nat) : Int)) = w25 := ⟨_, rfl⟩
          change Code.wp _ _ _ _ (((w24.setCell ⟨R, 1, none⟩ (.int .i64 ((j2 + ln : Nat) : Int))).setCell ⟨R, 2, none⟩ (.int .i64 ((3 : Nat) : Int))).setCell ⟨R, 2, none⟩ (.int .i64 ((5 : Nat) : Int)))
          rw [hw25] at hs25 ⊢
          have HS25 := hid hs25
          obtain ⟨x25, y25, hr25⟩ := HS25.out.sv.row
          have n0 : w25.cell? ⟨V, 0, none⟩ = some (.bool false) := cell_of_row w25 V 0 _ _ _ hr25
          have HROW25 := hid hr25
          clear hr25
          clear hw25 hs25 c1 c2 fz HS24
          refine end48_49 (G := G) (V := V) (cs := #[.string key, .int .i64 kd, .string raw]) (b := false) (x := x25) (y := y25) (fun _ _ _ _ _ h => h) rfl rfl rfl HS25.out.row rfl (by simp [Value.oneCell']) HROW25.out (fun e => HS25.out.gv e.symm) ?_
          intro A hA2 hA3 hA4 hAd
          have HR1 := (HS25.out.drew.setG #[.string key, .int .i64 kd, .string raw]).store false x25 y25
          have hz : ((w25.drew.setRow G #[.string key, .int .i64 kd, .string raw]).setRow V (F37 false x25 y25)).heap[V]? = some (.cells (F37 false x25 y25) 37 (0, 0)) := setRow_heap _ _ _ _ _ _ ((setRow_other _ _ _ _ (fun e => HS25.out.gv e.symm)).trans HROW25.out)
          change (_ : Act → World → Prop) _ _
          refine ‹∀ (a : Act) (w : World), Code.wp Tryz.prog _ _ a w → _› _ _ ?_
          refine wp_ret ?_
          change bodyPost Tryz.prog Tryz.f48 (FieldP R s w (mField m).1 (mField m).2.bad (mField m).2.got fr) .ret _ _
          refine bodyPost_ret (res_ctc50 rfl hA2 hA3 hA4 HR1.row hz rfl rfl) hAd ?_
          rw [HMT.out.1, HMT.out.2.1, HMT.out.2.2]
          exact FieldP.mk HSP.out (by omega) HR1 _ _ _ _ _ _ _
end Go.Proofs.YtejlokdcocacaaaGreatDoor
