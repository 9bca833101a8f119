/- One round of discover.find's loop, case by case. -/
import Derived.Test.YtdbhgdnhdnfhiaaFrame
namespace Go.Proofs.Ytdbhgdnhdnfhiaa
open Go.RowKit
set_option linter.unusedVariables false

set_option maxRecDepth 1000000 in
set_option maxHeartbeats 1000000 in
theorem case_pop {s : ByteArray} {back : Bool} {M N bb cap : Nat} {W0 : World} {ps : List (Nat × Nat)} {st i : Nat} {m : Md} {k1 : List Md} {t : Md} {vm vl : Value} {w : World}
    {K : Act → World → Prop} {Q0 : Exit → Act → World → Prop} (h : Inv s back M N bb W0 ps st i m.str (k1 ++ [t]) vm vl w) (pl : Plan s back ps st i (k1 ++ [t])) (gd : Good m (k1 ++ [t])) (hs : s.size ≤ 1000) (hi : i < s.size) (hc : Hid (m.code s[i].toNat = 112)) (hk1 : k1 ≠ []) (hg : Good t k1)
    (hK : ∀ a w, Next s back M N bb cap W0 (mu s st i (k1 ++ [t])) ⟨ps, st, i, m, k1 ++ [t]⟩ a w → K a w) (uc : Int) (u3 u4 u5 u6 u13 u14 u15 u16 u17 u18 u19 u20 u21 u22 u23 u24 u25 u26 u27 u28 u29 u30 u31 u32 u33 u34 u35 u36 u37 u38 u39 u40 u41 u42 u43 u44 u45 u46 u47 u48 u49 u50 u51 u52 u53 u54 u55 u56 u57 u58 u59 u60 u61 u62 u63 u64 u65 u66 u67 u68 u69 u70 u71 u72 u73 u74 u75 u76 u77 u78 u79 u80 u81 u82 u83 u84 u85 u86 u87 u88 u89 u90 u91 u92 u93 u94 u95 u96 u97 u98 u99 u100 u101 u102 u103 u104 u105 u106 u107 u108 u109 u110 u111 u112 u113 u114 u115 u116 u117 u118 u119 u120 u121 u122 u123 u124 u125 u126 u127 u128 u129 u130 u131 u132 u133 u134 u135 u136 u137 u138 u139 u140 u141 u142 u143 u144 u145 u146 u147 u148 u149 u150 u151 u152 u153 u154 u155 u156 u157 u158 u159 u160 u161 u162 u163 u164 u165 u166 u167 u168 u169 u170 u171 u172 u173 u174 u175 u176 u177 u178 u179 u180 u181 u182 u183 u184 u185 u186 u187 u188 u189 u190 u191 u192 u193 u194 u195 u196 u197 u198 u199 u200 u201 u202 u203 u204 u205 u206 u207 u208 u209 u210 u211 u212 u213 u214 u215 u216 u217 u218 : Value) :
    Code.wp Try.prog body (Exit.then K Q0) ⟨#[.slice (some ⟨bb, 0, none⟩) s.size cap, .func (.func 7) #[] #[.pointer (some ⟨M + 1, 0, none⟩), .pointer (some ⟨M, 0, none⟩)], .nilFunc, u3, u4, u5, u6, .pointer (some ⟨N, 0, none⟩), .pointer (some ⟨N + 1, 0, none⟩), .int .i64 uc, .pointer (some ⟨N + 2, 0, none⟩), .pointer (some ⟨N + 3, 0, none⟩), .func (.func 9) #[] #[.pointer (some ⟨N, 0, none⟩), .pointer (some ⟨N + 2, 0, none⟩), .pointer (some ⟨N + 1, 0, none⟩), .pointer (some ⟨N + 3, 0, none⟩)], u13, u14, u15, u16, u17, u18, u19, u20, u21, u22, u23, u24, u25, u26, u27, u28, u29, u30, u31, u32, u33, u34, u35, u36, u37, u38, u39, u40, u41, u42, u43, u44, u45, u46, u47, u48, u49, u50, u51, u52, u53, u54, u55, u56, u57, u58, u59, u60, u61, u62, u63, u64, u65, u66, u67, u68, u69, u70, u71, u72, u73, u74, u75, u76, u77, u78, u79, u80, u81, u82, u83, u84, u85, u86, u87, u88, u89, u90, u91, u92, u93, u94, u95, u96, u97, u98, u99, u100, u101, u102, u103, u104, u105, u106, u107, u108, u109, u110, u111, u112, u113, u114, u115, u116, u117, u118, u119, u120, u121, u122, u123, u124, u125, u126, u127, u128, u129, u130, u131, u132, u133, u134, u135, u136, u137, u138, u139, u140, u141, u142, u143, u144, u145, u146, u147, u148, u149, u150, u151, u152, u153, u154, u155, u156, u157, u158, u159, u160, u161, u162, u163, u164, u165, u166, u167, u168, u169, u170, u171, u172, u173, u174, u175, u176, u177, u178, u179, u180, u181, u182, u183, u184, u185, u186, u187, u188, u189, u190, u191, u192, u193, u194, u195, u196, u197, u198, u199, u200, u201, u202, u203, u204, u205, u206, u207, u208, u209, u210, u211, u212, u213, u214, u215, u216, u217, u218], []⟩ w := by
  obtain ⟨g, cap', rfl, hcap1, hcap2, ct, hgN, _⟩ := h.top
  have hcap3 : cap' ≤ 9223372036854775807 := by unfold maxLen at hcap2; omega
  have hdep := pl.depth
  simp only [List.length_append, List.length_singleton] at hdep
  have cp := cell_of_one h.pos
  have cm := cell_of_one h.mode
  have fp := free_of_one h.pos
  have cb := h.buf i hi
  have hb : s[i].toNat < 256 := s[i].toNat_lt
  have hsz : s[i].toNat < m.str.size := by rw [Md.size]; omega
  have c1 := cell_of_one h.modes
  have f1 := free_of_one h.modes
  have fm := free_of_one h.mode
  have c0 := cell_of_one h.start
  have f0 := free_of_one h.start
  have hlt := h.size
  have H := hid h
  clear h
  conv => arg 2; whnf
  go_wp2_with (first | (refine wpList_index_md rfl (.tmp 27) (.tmp 28) rfl m.str rfl (s[i].toNat) rfl (by assumption) 112 hc.out ?_))
  refine Next.intro t ⟨rfl, rfl, rfl, rfl, rfl, rfl, rfl, ⟨_, rfl⟩, rfl, rfl, rfl⟩ (((H.out.setMode t.str).pop).setPos' (i + 1) _ (by omega)) (pl.inside (by simp) hi hk1 (by simp; omega)) hg (Stp.other hi hc.out (by decide) (by decide) (by decide))

set_option maxRecDepth 1000000 in
set_option maxHeartbeats 1000000 in
theorem case_quoteEnd_arr {s : ByteArray} {back : Bool} {M N bb cap : Nat} {W0 : World} {ps : List (Nat × Nat)} {st i : Nat} {m : Md} {k1 : List Md} {vm vl : Value} {w : World}
    {K : Act → World → Prop} {Q0 : Exit → Act → World → Prop} (h : Inv s back M N bb W0 ps st i m.str (k1 ++ [Md.arr]) vm vl w) (pl : Plan s back ps st i (k1 ++ [Md.arr])) (gd : Good m (k1 ++ [Md.arr])) (hs : s.size ≤ 1000) (hi : i < s.size) (hc : Hid (m.code s[i].toNat = 122)) (hk1 : k1 ≠ []) (hg : Good Md.arr k1)
    (hK : ∀ a w, Next s back M N bb cap W0 (mu s st i (k1 ++ [Md.arr])) ⟨ps, st, i, m, k1 ++ [Md.arr]⟩ a w → K a w) (uc : Int) (u3 u4 u5 u6 u13 u14 u15 u16 u17 u18 u19 u20 u21 u22 u23 u24 u25 u26 u27 u28 u29 u30 u31 u32 u33 u34 u35 u36 u37 u38 u39 u40 u41 u42 u43 u44 u45 u46 u47 u48 u49 u50 u51 u52 u53 u54 u55 u56 u57 u58 u59 u60 u61 u62 u63 u64 u65 u66 u67 u68 u69 u70 u71 u72 u73 u74 u75 u76 u77 u78 u79 u80 u81 u82 u83 u84 u85 u86 u87 u88 u89 u90 u91 u92 u93 u94 u95 u96 u97 u98 u99 u100 u101 u102 u103 u104 u105 u106 u107 u108 u109 u110 u111 u112 u113 u114 u115 u116 u117 u118 u119 u120 u121 u122 u123 u124 u125 u126 u127 u128 u129 u130 u131 u132 u133 u134 u135 u136 u137 u138 u139 u140 u141 u142 u143 u144 u145 u146 u147 u148 u149 u150 u151 u152 u153 u154 u155 u156 u157 u158 u159 u160 u161 u162 u163 u164 u165 u166 u167 u168 u169 u170 u171 u172 u173 u174 u175 u176 u177 u178 u179 u180 u181 u182 u183 u184 u185 u186 u187 u188 u189 u190 u191 u192 u193 u194 u195 u196 u197 u198 u199 u200 u201 u202 u203 u204 u205 u206 u207 u208 u209 u210 u211 u212 u213 u214 u215 u216 u217 u218 : Value) :
    Code.wp Try.prog body (Exit.then K Q0) ⟨#[.slice (some ⟨bb, 0, none⟩) s.size cap, .func (.func 7) #[] #[.pointer (some ⟨M + 1, 0, none⟩), .pointer (some ⟨M, 0, none⟩)], .nilFunc, u3, u4, u5, u6, .pointer (some ⟨N, 0, none⟩), .pointer (some ⟨N + 1, 0, none⟩), .int .i64 uc, .pointer (some ⟨N + 2, 0, none⟩), .pointer (some ⟨N + 3, 0, none⟩), .func (.func 9) #[] #[.pointer (some ⟨N, 0, none⟩), .pointer (some ⟨N + 2, 0, none⟩), .pointer (some ⟨N + 1, 0, none⟩), .pointer (some ⟨N + 3, 0, none⟩)], u13, u14, u15, u16, u17, u18, u19, u20, u21, u22, u23, u24, u25, u26, u27, u28, u29, u30, u31, u32, u33, u34, u35, u36, u37, u38, u39, u40, u41, u42, u43, u44, u45, u46, u47, u48, u49, u50, u51, u52, u53, u54, u55, u56, u57, u58, u59, u60, u61, u62, u63, u64, u65, u66, u67, u68, u69, u70, u71, u72, u73, u74, u75, u76, u77, u78, u79, u80, u81, u82, u83, u84, u85, u86, u87, u88, u89, u90, u91, u92, u93, u94, u95, u96, u97, u98, u99, u100, u101, u102, u103, u104, u105, u106, u107, u108, u109, u110, u111, u112, u113, u114, u115, u116, u117, u118, u119, u120, u121, u122, u123, u124, u125, u126, u127, u128, u129, u130, u131, u132, u133, u134, u135, u136, u137, u138, u139, u140, u141, u142, u143, u144, u145, u146, u147, u148, u149, u150, u151, u152, u153, u154, u155, u156, u157, u158, u159, u160, u161, u162, u163, u164, u165, u166, u167, u168, u169, u170, u171, u172, u173, u174, u175, u176, u177, u178, u179, u180, u181, u182, u183, u184, u185, u186, u187, u188, u189, u190, u191, u192, u193, u194, u195, u196, u197, u198, u199, u200, u201, u202, u203, u204, u205, u206, u207, u208, u209, u210, u211, u212, u213, u214, u215, u216, u217, u218], []⟩ w := by
  obtain ⟨g, cap', rfl, hcap1, hcap2, ct, hgN, _⟩ := h.top
  have hcap3 : cap' ≤ 9223372036854775807 := by unfold maxLen at hcap2; omega
  have hdep := pl.depth
  simp only [List.length_append, List.length_singleton] at hdep
  have cp := cell_of_one h.pos
  have cm := cell_of_one h.mode
  have fp := free_of_one h.pos
  have cb := h.buf i hi
  have hb : s[i].toNat < 256 := s[i].toNat_lt
  have hsz : s[i].toNat < m.str.size := by rw [Md.size]; omega
  have c1 := cell_of_one h.modes
  have f1 := free_of_one h.modes
  have fm := free_of_one h.mode
  have c0 := cell_of_one h.start
  have f0 := free_of_one h.start
  have hlt := h.size
  have H := hid h
  clear h
  conv => arg 2; whnf
  go_wp2_with (first | (refine wpList_index_md rfl (.tmp 27) (.tmp 28) rfl m.str rfl (s[i].toNat) rfl (by assumption) 122 hc.out ?_) | (refine wpList_eql_md (o := ⟨some 141, _, _, _, _, _⟩) rfl (.tmp 139) _ rfl Md.arr.str Md.obj.str rfl (by kernel_rfl) false ⟨fun e => absurd (Md.str_inj e) (by decide), by simp⟩ ?_) | (refine wpList_eql_md (o := ⟨some 143, _, _, _, _, _⟩) rfl (.tmp 139) _ rfl Md.arr.str Md.pre.str rfl (by kernel_rfl) false ⟨fun e => absurd (Md.str_inj e) (by decide), by simp⟩ ?_))
  refine Next.intro Md.arr ⟨rfl, rfl, rfl, rfl, rfl, rfl, rfl, ⟨_, rfl⟩, rfl, rfl, rfl⟩ (((H.out.setMode Md.arr.str).pop).setPos' (i + 1) _ (by omega)) (pl.inside (by simp) hi hk1 (by simp; omega)) hg (Stp.other hi hc.out (by decide) (by decide) (by decide))

set_option maxRecDepth 1000000 in
set_option maxHeartbeats 1000000 in
theorem case_quoteEnd_obj {s : ByteArray} {back : Bool} {M N bb cap : Nat} {W0 : World} {ps : List (Nat × Nat)} {st i : Nat} {m : Md} {k1 : List Md} {vm vl : Value} {w : World}
    {K : Act → World → Prop} {Q0 : Exit → Act → World → Prop} (h : Inv s back M N bb W0 ps st i m.str (k1 ++ [Md.obj]) vm vl w) (pl : Plan s back ps st i (k1 ++ [Md.obj])) (gd : Good m (k1 ++ [Md.obj])) (hs : s.size ≤ 1000) (hi : i < s.size) (hc : Hid (m.code s[i].toNat = 122)) (hk1 : k1 ≠ []) (hg : Good Md.colon k1)
    (hK : ∀ a w, Next s back M N bb cap W0 (mu s st i (k1 ++ [Md.obj])) ⟨ps, st, i, m, k1 ++ [Md.obj]⟩ a w → K a w) (uc : Int) (u3 u4 u5 u6 u13 u14 u15 u16 u17 u18 u19 u20 u21 u22 u23 u24 u25 u26 u27 u28 u29 u30 u31 u32 u33 u34 u35 u36 u37 u38 u39 u40 u41 u42 u43 u44 u45 u46 u47 u48 u49 u50 u51 u52 u53 u54 u55 u56 u57 u58 u59 u60 u61 u62 u63 u64 u65 u66 u67 u68 u69 u70 u71 u72 u73 u74 u75 u76 u77 u78 u79 u80 u81 u82 u83 u84 u85 u86 u87 u88 u89 u90 u91 u92 u93 u94 u95 u96 u97 u98 u99 u100 u101 u102 u103 u104 u105 u106 u107 u108 u109 u110 u111 u112 u113 u114 u115 u116 u117 u118 u119 u120 u121 u122 u123 u124 u125 u126 u127 u128 u129 u130 u131 u132 u133 u134 u135 u136 u137 u138 u139 u140 u141 u142 u143 u144 u145 u146 u147 u148 u149 u150 u151 u152 u153 u154 u155 u156 u157 u158 u159 u160 u161 u162 u163 u164 u165 u166 u167 u168 u169 u170 u171 u172 u173 u174 u175 u176 u177 u178 u179 u180 u181 u182 u183 u184 u185 u186 u187 u188 u189 u190 u191 u192 u193 u194 u195 u196 u197 u198 u199 u200 u201 u202 u203 u204 u205 u206 u207 u208 u209 u210 u211 u212 u213 u214 u215 u216 u217 u218 : Value) :
    Code.wp Try.prog body (Exit.then K Q0) ⟨#[.slice (some ⟨bb, 0, none⟩) s.size cap, .func (.func 7) #[] #[.pointer (some ⟨M + 1, 0, none⟩), .pointer (some ⟨M, 0, none⟩)], .nilFunc, u3, u4, u5, u6, .pointer (some ⟨N, 0, none⟩), .pointer (some ⟨N + 1, 0, none⟩), .int .i64 uc, .pointer (some ⟨N + 2, 0, none⟩), .pointer (some ⟨N + 3, 0, none⟩), .func (.func 9) #[] #[.pointer (some ⟨N, 0, none⟩), .pointer (some ⟨N + 2, 0, none⟩), .pointer (some ⟨N + 1, 0, none⟩), .pointer (some ⟨N + 3, 0, none⟩)], u13, u14, u15, u16, u17, u18, u19, u20, u21, u22, u23, u24, u25, u26, u27, u28, u29, u30, u31, u32, u33, u34, u35, u36, u37, u38, u39, u40, u41, u42, u43, u44, u45, u46, u47, u48, u49, u50, u51, u52, u53, u54, u55, u56, u57, u58, u59, u60, u61, u62, u63, u64, u65, u66, u67, u68, u69, u70, u71, u72, u73, u74, u75, u76, u77, u78, u79, u80, u81, u82, u83, u84, u85, u86, u87, u88, u89, u90, u91, u92, u93, u94, u95, u96, u97, u98, u99, u100, u101, u102, u103, u104, u105, u106, u107, u108, u109, u110, u111, u112, u113, u114, u115, u116, u117, u118, u119, u120, u121, u122, u123, u124, u125, u126, u127, u128, u129, u130, u131, u132, u133, u134, u135, u136, u137, u138, u139, u140, u141, u142, u143, u144, u145, u146, u147, u148, u149, u150, u151, u152, u153, u154, u155, u156, u157, u158, u159, u160, u161, u162, u163, u164, u165, u166, u167, u168, u169, u170, u171, u172, u173, u174, u175, u176, u177, u178, u179, u180, u181, u182, u183, u184, u185, u186, u187, u188, u189, u190, u191, u192, u193, u194, u195, u196, u197, u198, u199, u200, u201, u202, u203, u204, u205, u206, u207, u208, u209, u210, u211, u212, u213, u214, u215, u216, u217, u218], []⟩ w := by
  obtain ⟨g, cap', rfl, hcap1, hcap2, ct, hgN, _⟩ := h.top
  have hcap3 : cap' ≤ 9223372036854775807 := by unfold maxLen at hcap2; omega
  have hdep := pl.depth
  simp only [List.length_append, List.length_singleton] at hdep
  have cp := cell_of_one h.pos
  have cm := cell_of_one h.mode
  have fp := free_of_one h.pos
  have cb := h.buf i hi
  have hb : s[i].toNat < 256 := s[i].toNat_lt
  have hsz : s[i].toNat < m.str.size := by rw [Md.size]; omega
  have c1 := cell_of_one h.modes
  have f1 := free_of_one h.modes
  have fm := free_of_one h.mode
  have c0 := cell_of_one h.start
  have f0 := free_of_one h.start
  have hlt := h.size
  have H := hid h
  clear h
  conv => arg 2; whnf
  go_wp2_with (first | (refine wpList_index_md rfl (.tmp 27) (.tmp 28) rfl m.str rfl (s[i].toNat) rfl (by assumption) 122 hc.out ?_) | (refine wpList_eql_md (o := ⟨some 141, _, _, _, _, _⟩) rfl (.tmp 139) _ rfl Md.obj.str Md.obj.str rfl (by kernel_rfl) true ⟨fun _ => rfl, fun _ => rfl⟩ ?_) | (refine wpList_store_str rfl rfl (.tmp 11) (.const _) rfl _ rfl Md.colon.str (by kernel_rfl) (by go_simp) (by go_simp) ?_))
  refine Next.intro Md.colon ⟨rfl, rfl, rfl, rfl, rfl, rfl, rfl, ⟨_, rfl⟩, rfl, rfl, rfl⟩ (((H.out.setMode Md.obj.str).pop.setMode _).setPos' (i + 1) _ (by omega)) (pl.inside (by simp) hi hk1 (by simp; omega)) hg (Stp.other hi hc.out (by decide) (by decide) (by decide))

set_option maxRecDepth 1000000 in
set_option maxHeartbeats 1000000 in
theorem case_quoteEnd_pre {s : ByteArray} {back : Bool} {M N bb cap : Nat} {W0 : World} {ps : List (Nat × Nat)} {st i : Nat} {m : Md} {k1 : List Md} {vm vl : Value} {w : World}
    {K : Act → World → Prop} {Q0 : Exit → Act → World → Prop} (h : Inv s back M N bb W0 ps st i m.str (k1 ++ [Md.pre]) vm vl w) (pl : Plan s back ps st i (k1 ++ [Md.pre])) (gd : Good m (k1 ++ [Md.pre])) (hs : s.size ≤ 1000) (hi : i < s.size) (hc : Hid (m.code s[i].toNat = 122)) (hk1 : k1 ≠ []) (hg : Good Md.obj k1)
    (hK : ∀ a w, Next s back M N bb cap W0 (mu s st i (k1 ++ [Md.pre])) ⟨ps, st, i, m, k1 ++ [Md.pre]⟩ a w → K a w) (uc : Int) (u3 u4 u5 u6 u13 u14 u15 u16 u17 u18 u19 u20 u21 u22 u23 u24 u25 u26 u27 u28 u29 u30 u31 u32 u33 u34 u35 u36 u37 u38 u39 u40 u41 u42 u43 u44 u45 u46 u47 u48 u49 u50 u51 u52 u53 u54 u55 u56 u57 u58 u59 u60 u61 u62 u63 u64 u65 u66 u67 u68 u69 u70 u71 u72 u73 u74 u75 u76 u77 u78 u79 u80 u81 u82 u83 u84 u85 u86 u87 u88 u89 u90 u91 u92 u93 u94 u95 u96 u97 u98 u99 u100 u101 u102 u103 u104 u105 u106 u107 u108 u109 u110 u111 u112 u113 u114 u115 u116 u117 u118 u119 u120 u121 u122 u123 u124 u125 u126 u127 u128 u129 u130 u131 u132 u133 u134 u135 u136 u137 u138 u139 u140 u141 u142 u143 u144 u145 u146 u147 u148 u149 u150 u151 u152 u153 u154 u155 u156 u157 u158 u159 u160 u161 u162 u163 u164 u165 u166 u167 u168 u169 u170 u171 u172 u173 u174 u175 u176 u177 u178 u179 u180 u181 u182 u183 u184 u185 u186 u187 u188 u189 u190 u191 u192 u193 u194 u195 u196 u197 u198 u199 u200 u201 u202 u203 u204 u205 u206 u207 u208 u209 u210 u211 u212 u213 u214 u215 u216 u217 u218 : Value) :
    Code.wp Try.prog body (Exit.then K Q0) ⟨#[.slice (some ⟨bb, 0, none⟩) s.size cap, .func (.func 7) #[] #[.pointer (some ⟨M + 1, 0, none⟩), .pointer (some ⟨M, 0, none⟩)], .nilFunc, u3, u4, u5, u6, .pointer (some ⟨N, 0, none⟩), .pointer (some ⟨N + 1, 0, none⟩), .int .i64 uc, .pointer (some ⟨N + 2, 0, none⟩), .pointer (some ⟨N + 3, 0, none⟩), .func (.func 9) #[] #[.pointer (some ⟨N, 0, none⟩), .pointer (some ⟨N + 2, 0, none⟩), .pointer (some ⟨N + 1, 0, none⟩), .pointer (some ⟨N + 3, 0, none⟩)], u13, u14, u15, u16, u17, u18, u19, u20, u21, u22, u23, u24, u25, u26, u27, u28, u29, u30, u31, u32, u33, u34, u35, u36, u37, u38, u39, u40, u41, u42, u43, u44, u45, u46, u47, u48, u49, u50, u51, u52, u53, u54, u55, u56, u57, u58, u59, u60, u61, u62, u63, u64, u65, u66, u67, u68, u69, u70, u71, u72, u73, u74, u75, u76, u77, u78, u79, u80, u81, u82, u83, u84, u85, u86, u87, u88, u89, u90, u91, u92, u93, u94, u95, u96, u97, u98, u99, u100, u101, u102, u103, u104, u105, u106, u107, u108, u109, u110, u111, u112, u113, u114, u115, u116, u117, u118, u119, u120, u121, u122, u123, u124, u125, u126, u127, u128, u129, u130, u131, u132, u133, u134, u135, u136, u137, u138, u139, u140, u141, u142, u143, u144, u145, u146, u147, u148, u149, u150, u151, u152, u153, u154, u155, u156, u157, u158, u159, u160, u161, u162, u163, u164, u165, u166, u167, u168, u169, u170, u171, u172, u173, u174, u175, u176, u177, u178, u179, u180, u181, u182, u183, u184, u185, u186, u187, u188, u189, u190, u191, u192, u193, u194, u195, u196, u197, u198, u199, u200, u201, u202, u203, u204, u205, u206, u207, u208, u209, u210, u211, u212, u213, u214, u215, u216, u217, u218], []⟩ w := by
  obtain ⟨g, cap', rfl, hcap1, hcap2, ct, hgN, _⟩ := h.top
  have hcap3 : cap' ≤ 9223372036854775807 := by unfold maxLen at hcap2; omega
  have hdep := pl.depth
  simp only [List.length_append, List.length_singleton] at hdep
  have cp := cell_of_one h.pos
  have cm := cell_of_one h.mode
  have fp := free_of_one h.pos
  have cb := h.buf i hi
  have hb : s[i].toNat < 256 := s[i].toNat_lt
  have hsz : s[i].toNat < m.str.size := by rw [Md.size]; omega
  have c1 := cell_of_one h.modes
  have f1 := free_of_one h.modes
  have fm := free_of_one h.mode
  have c0 := cell_of_one h.start
  have f0 := free_of_one h.start
  have hlt := h.size
  have H := hid h
  clear h
  conv => arg 2; whnf
  go_wp2_with (first | (refine wpList_index_md rfl (.tmp 27) (.tmp 28) rfl m.str rfl (s[i].toNat) rfl (by assumption) 122 hc.out ?_) | (refine wpList_eql_md (o := ⟨some 141, _, _, _, _, _⟩) rfl (.tmp 139) _ rfl Md.pre.str Md.obj.str rfl (by kernel_rfl) false ⟨fun e => absurd (Md.str_inj e) (by decide), by simp⟩ ?_) | (refine wpList_eql_md (o := ⟨some 143, _, _, _, _, _⟩) rfl (.tmp 139) _ rfl Md.pre.str Md.pre.str rfl (by kernel_rfl) true ⟨fun _ => rfl, fun _ => rfl⟩ ?_) | (refine wpList_store_str rfl rfl (.tmp 11) (.const _) rfl _ rfl Md.obj.str (by kernel_rfl) (by go_simp) (by go_simp) ?_))
  refine Next.intro Md.obj ⟨rfl, rfl, rfl, rfl, rfl, rfl, rfl, ⟨_, rfl⟩, rfl, rfl, rfl⟩ (((H.out.setMode Md.pre.str).pop.setMode _).setPos' (i + 1) _ (by omega)) (pl.inside (by simp) hi hk1 (by simp; omega)) hg (Stp.other hi hc.out (by decide) (by decide) (by decide))

end Go.Proofs.Ytdbhgdnhdnfhiaa
