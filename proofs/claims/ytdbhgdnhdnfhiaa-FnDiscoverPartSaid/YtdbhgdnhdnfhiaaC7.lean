/- One round of discover.find's loop, case by case. -/
import Derived.Test.YtdbhgdnhdnfhiaaFrame
namespace Go.Proofs.Ytdbhgdnhdnfhiaa
open Go.RowKit
set_option linter.unusedVariables false

set_option maxRecDepth 1000000 in
set_option maxHeartbeats 1000000 in
theorem case_quote_81_b {s : ByteArray} {back : Bool} {M N bb cap : Nat} {W0 : World} {ps : List (Nat × Nat)} {st j : Nat} {m : Md} {k : List Md} {vm vl : Value} {w : World}
    {K : Act → World → Prop} {Q0 : Exit → Act → World → Prop} (h : Inv s back M N bb W0 ps st (j + 1) m.str k vm vl w) (pl : Plan s back ps st (j + 1) k) (gd : Good m k) (hs : s.size ≤ 1000) (hi : j + 1 < s.size) (hc : Hid (m.code s[j + 1].toNat = 81)) (hk : k ≠ []) (hq : Hid ((quoteOk.data.toList.getD (s[j].toNat) 0).toNat = 111)) (h34 : (((s[j + 1].toNat : Int) == 34) = true)) (hg : Good Md.q2 (k ++ [m]))
    (hK : ∀ a w, Next s back M N bb cap W0 (mu s st (j + 1) k) ⟨ps, st, j + 1, m, k⟩ a w → K a w) (uc : Int) (u3 u4 u5 u6 u13 u14 u15 u16 u17 u18 u19 u20 u21 u22 u23 u24 u25 u26 u27 u28 u29 u30 u31 u32 u33 u34 u35 u36 u37 u38 u39 u40 u41 u42 u43 u44 u45 u46 u47 u48 u49 u50 u51 u52 u53 u54 u55 u56 u57 u58 u59 u60 u61 u62 u63 u64 u65 u66 u67 u68 u69 u70 u71 u72 u73 u74 u75 u76 u77 u78 u79 u80 u81 u82 u83 u84 u85 u86 u87 u88 u89 u90 u91 u92 u93 u94 u95 u96 u97 u98 u99 u100 u101 u102 u103 u104 u105 u106 u107 u108 u109 u110 u111 u112 u113 u114 u115 u116 u117 u118 u119 u120 u121 u122 u123 u124 u125 u126 u127 u128 u129 u130 u131 u132 u133 u134 u135 u136 u137 u138 u139 u140 u141 u142 u143 u144 u145 u146 u147 u148 u149 u150 u151 u152 u153 u154 u155 u156 u157 u158 u159 u160 u161 u162 u163 u164 u165 u166 u167 u168 u169 u170 u171 u172 u173 u174 u175 u176 u177 u178 u179 u180 u181 u182 u183 u184 u185 u186 u187 u188 u189 u190 u191 u192 u193 u194 u195 u196 u197 u198 u199 u200 u201 u202 u203 u204 u205 u206 u207 u208 u209 u210 u211 u212 u213 u214 u215 u216 u217 u218 : Value) :
    Code.wp Try.prog body (Exit.then K Q0) ⟨#[.slice (some ⟨bb, 0, none⟩) s.size cap, .func (.func 7) #[] #[.pointer (some ⟨M + 1, 0, none⟩), .pointer (some ⟨M, 0, none⟩)], .nilFunc, u3, u4, u5, u6, .pointer (some ⟨N, 0, none⟩), .pointer (some ⟨N + 1, 0, none⟩), .int .i64 uc, .pointer (some ⟨N + 2, 0, none⟩), .pointer (some ⟨N + 3, 0, none⟩), .func (.func 9) #[] #[.pointer (some ⟨N, 0, none⟩), .pointer (some ⟨N + 2, 0, none⟩), .pointer (some ⟨N + 1, 0, none⟩), .pointer (some ⟨N + 3, 0, none⟩)], u13, u14, u15, u16, u17, u18, u19, u20, u21, u22, u23, u24, u25, u26, u27, u28, u29, u30, u31, u32, u33, u34, u35, u36, u37, u38, u39, u40, u41, u42, u43, u44, u45, u46, u47, u48, u49, u50, u51, u52, u53, u54, u55, u56, u57, u58, u59, u60, u61, u62, u63, u64, u65, u66, u67, u68, u69, u70, u71, u72, u73, u74, u75, u76, u77, u78, u79, u80, u81, u82, u83, u84, u85, u86, u87, u88, u89, u90, u91, u92, u93, u94, u95, u96, u97, u98, u99, u100, u101, u102, u103, u104, u105, u106, u107, u108, u109, u110, u111, u112, u113, u114, u115, u116, u117, u118, u119, u120, u121, u122, u123, u124, u125, u126, u127, u128, u129, u130, u131, u132, u133, u134, u135, u136, u137, u138, u139, u140, u141, u142, u143, u144, u145, u146, u147, u148, u149, u150, u151, u152, u153, u154, u155, u156, u157, u158, u159, u160, u161, u162, u163, u164, u165, u166, u167, u168, u169, u170, u171, u172, u173, u174, u175, u176, u177, u178, u179, u180, u181, u182, u183, u184, u185, u186, u187, u188, u189, u190, u191, u192, u193, u194, u195, u196, u197, u198, u199, u200, u201, u202, u203, u204, u205, u206, u207, u208, u209, u210, u211, u212, u213, u214, u215, u216, u217, u218], []⟩ w := by
  obtain ⟨ad, cap', rfl⟩ := h.vm_form
  have cp := cell_of_one h.pos
  have cm := cell_of_one h.mode
  have fp := free_of_one h.pos
  have cb := h.buf (j + 1) hi
  have hb : s[j + 1].toNat < 256 := s[j + 1].toNat_lt
  have hsz : s[j + 1].toNat < m.str.size := by rw [Md.size]; omega
  have c1 := cell_of_one h.modes
  have f1 := free_of_one h.modes
  have fm := free_of_one h.mode
  have c0 := cell_of_one h.start
  have f0 := free_of_one h.start
  have hlt := h.size
  have H := hid h
  clear h
  have cj := H.out.buf j (by omega)
  have hj : s[j].toNat < quoteOk.size := by have := s[j].toNat_lt; rw [quoteOk_size]; omega
  conv => arg 2; whnf
  go_wp2_with (first | (refine wpList_index_md rfl (.tmp 27) (.tmp 28) rfl m.str rfl (s[j + 1].toNat) rfl (by assumption) 81 hc.out ?_) | (refine wpList_index_md rfl _ (.tmp 115) rfl quoteOk (by kernel_rfl) (s[j].toNat) rfl (by assumption) 111 hq.out ?_) | (refine wpList_buildSlice_str rfl (.tmp 121) rfl m.str (by kernel_rfl) ?_) | (at_builtin; refine wpList_append_str rfl (.tmp 120) (.tmp 122) rfl (N + 4) _ _ _ rfl (H.out.alloc _).row _ 1 (m).str rfl (by go_simp) (by have := pl.depth; simp <;> omega) (by simp <;> omega) ?_; intro g capg w' hown hgrow hat; have b1 := grown_one hgrow (H.out.alloc _).modes (H.out.own_ge (by omega)).1; have b2 := grown_one hgrow (H.out.alloc _).pos (H.out.own_ge (by omega)).1; have b3 := grown_one hgrow (H.out.alloc _).mode (H.out.own_ge (by omega)).1; have c1' := cell_of_one b1; have f1' := free_of_one b1; have c2' := cell_of_one b2; have f2' := free_of_one b2; have c3' := cell_of_one b3; have f3' := free_of_one b3; have HP := hid ((H.out.alloc _).push m _ w' hown hgrow hat); clear b1 b2 b3 hown hgrow hat) | (refine wpList_store_str rfl rfl (.tmp 11) (.const _) rfl _ rfl Md.q2.str (by kernel_rfl) (by go_simp) (by go_simp) ?_))
  refine Next.intro Md.q2 ⟨rfl, rfl, rfl, rfl, rfl, rfl, rfl, ⟨_, rfl⟩, rfl, rfl, rfl⟩ ((HP.out.setMode _).setPos' (j + 1 + 1) _ (by omega)) (pl.inside hk hi (by simp) (by simp)) hg (Stp.other hi hc.out (by decide) (by decide) (by decide))

set_option maxRecDepth 1000000 in
set_option maxHeartbeats 1000000 in
theorem case_quote_81_a {s : ByteArray} {back : Bool} {M N bb cap : Nat} {W0 : World} {ps : List (Nat × Nat)} {st j : Nat} {m : Md} {k : List Md} {vm vl : Value} {w : World}
    {K : Act → World → Prop} {Q0 : Exit → Act → World → Prop} (h : Inv s back M N bb W0 ps st (j + 1) m.str k vm vl w) (pl : Plan s back ps st (j + 1) k) (gd : Good m k) (hs : s.size ≤ 1000) (hi : j + 1 < s.size) (hc : Hid (m.code s[j + 1].toNat = 81)) (hk : k ≠ []) (hq : Hid ((quoteOk.data.toList.getD (s[j].toNat) 0).toNat = 111)) (h34 : (((s[j + 1].toNat : Int) == 34) = false)) (hg : Good Md.q1 (k ++ [m]))
    (hK : ∀ a w, Next s back M N bb cap W0 (mu s st (j + 1) k) ⟨ps, st, j + 1, m, k⟩ a w → K a w) (uc : Int) (u3 u4 u5 u6 u13 u14 u15 u16 u17 u18 u19 u20 u21 u22 u23 u24 u25 u26 u27 u28 u29 u30 u31 u32 u33 u34 u35 u36 u37 u38 u39 u40 u41 u42 u43 u44 u45 u46 u47 u48 u49 u50 u51 u52 u53 u54 u55 u56 u57 u58 u59 u60 u61 u62 u63 u64 u65 u66 u67 u68 u69 u70 u71 u72 u73 u74 u75 u76 u77 u78 u79 u80 u81 u82 u83 u84 u85 u86 u87 u88 u89 u90 u91 u92 u93 u94 u95 u96 u97 u98 u99 u100 u101 u102 u103 u104 u105 u106 u107 u108 u109 u110 u111 u112 u113 u114 u115 u116 u117 u118 u119 u120 u121 u122 u123 u124 u125 u126 u127 u128 u129 u130 u131 u132 u133 u134 u135 u136 u137 u138 u139 u140 u141 u142 u143 u144 u145 u146 u147 u148 u149 u150 u151 u152 u153 u154 u155 u156 u157 u158 u159 u160 u161 u162 u163 u164 u165 u166 u167 u168 u169 u170 u171 u172 u173 u174 u175 u176 u177 u178 u179 u180 u181 u182 u183 u184 u185 u186 u187 u188 u189 u190 u191 u192 u193 u194 u195 u196 u197 u198 u199 u200 u201 u202 u203 u204 u205 u206 u207 u208 u209 u210 u211 u212 u213 u214 u215 u216 u217 u218 : Value) :
    Code.wp Try.prog body (Exit.then K Q0) ⟨#[.slice (some ⟨bb, 0, none⟩) s.size cap, .func (.func 7) #[] #[.pointer (some ⟨M + 1, 0, none⟩), .pointer (some ⟨M, 0, none⟩)], .nilFunc, u3, u4, u5, u6, .pointer (some ⟨N, 0, none⟩), .pointer (some ⟨N + 1, 0, none⟩), .int .i64 uc, .pointer (some ⟨N + 2, 0, none⟩), .pointer (some ⟨N + 3, 0, none⟩), .func (.func 9) #[] #[.pointer (some ⟨N, 0, none⟩), .pointer (some ⟨N + 2, 0, none⟩), .pointer (some ⟨N + 1, 0, none⟩), .pointer (some ⟨N + 3, 0, none⟩)], u13, u14, u15, u16, u17, u18, u19, u20, u21, u22, u23, u24, u25, u26, u27, u28, u29, u30, u31, u32, u33, u34, u35, u36, u37, u38, u39, u40, u41, u42, u43, u44, u45, u46, u47, u48, u49, u50, u51, u52, u53, u54, u55, u56, u57, u58, u59, u60, u61, u62, u63, u64, u65, u66, u67, u68, u69, u70, u71, u72, u73, u74, u75, u76, u77, u78, u79, u80, u81, u82, u83, u84, u85, u86, u87, u88, u89, u90, u91, u92, u93, u94, u95, u96, u97, u98, u99, u100, u101, u102, u103, u104, u105, u106, u107, u108, u109, u110, u111, u112, u113, u114, u115, u116, u117, u118, u119, u120, u121, u122, u123, u124, u125, u126, u127, u128, u129, u130, u131, u132, u133, u134, u135, u136, u137, u138, u139, u140, u141, u142, u143, u144, u145, u146, u147, u148, u149, u150, u151, u152, u153, u154, u155, u156, u157, u158, u159, u160, u161, u162, u163, u164, u165, u166, u167, u168, u169, u170, u171, u172, u173, u174, u175, u176, u177, u178, u179, u180, u181, u182, u183, u184, u185, u186, u187, u188, u189, u190, u191, u192, u193, u194, u195, u196, u197, u198, u199, u200, u201, u202, u203, u204, u205, u206, u207, u208, u209, u210, u211, u212, u213, u214, u215, u216, u217, u218], []⟩ w := by
  obtain ⟨ad, cap', rfl⟩ := h.vm_form
  have cp := cell_of_one h.pos
  have cm := cell_of_one h.mode
  have fp := free_of_one h.pos
  have cb := h.buf (j + 1) hi
  have hb : s[j + 1].toNat < 256 := s[j + 1].toNat_lt
  have hsz : s[j + 1].toNat < m.str.size := by rw [Md.size]; omega
  have c1 := cell_of_one h.modes
  have f1 := free_of_one h.modes
  have fm := free_of_one h.mode
  have c0 := cell_of_one h.start
  have f0 := free_of_one h.start
  have hlt := h.size
  have H := hid h
  clear h
  have cj := H.out.buf j (by omega)
  have hj : s[j].toNat < quoteOk.size := by have := s[j].toNat_lt; rw [quoteOk_size]; omega
  conv => arg 2; whnf
  go_wp2_with (first | (refine wpList_index_md rfl (.tmp 27) (.tmp 28) rfl m.str rfl (s[j + 1].toNat) rfl (by assumption) 81 hc.out ?_) | (refine wpList_index_md rfl _ (.tmp 115) rfl quoteOk (by kernel_rfl) (s[j].toNat) rfl (by assumption) 111 hq.out ?_) | (refine wpList_buildSlice_str rfl (.tmp 121) rfl m.str (by kernel_rfl) ?_) | (at_builtin; refine wpList_append_str rfl (.tmp 120) (.tmp 122) rfl (N + 4) _ _ _ rfl (H.out.alloc _).row _ 1 (m).str rfl (by go_simp) (by have := pl.depth; simp <;> omega) (by simp <;> omega) ?_; intro g capg w' hown hgrow hat; have b1 := grown_one hgrow (H.out.alloc _).modes (H.out.own_ge (by omega)).1; have b2 := grown_one hgrow (H.out.alloc _).pos (H.out.own_ge (by omega)).1; have b3 := grown_one hgrow (H.out.alloc _).mode (H.out.own_ge (by omega)).1; have c1' := cell_of_one b1; have f1' := free_of_one b1; have c2' := cell_of_one b2; have f2' := free_of_one b2; have c3' := cell_of_one b3; have f3' := free_of_one b3; have HP := hid ((H.out.alloc _).push m _ w' hown hgrow hat); clear b1 b2 b3 hown hgrow hat) | (refine wpList_store_str rfl rfl (.tmp 11) (.const _) rfl _ rfl Md.q1.str (by kernel_rfl) (by go_simp) (by go_simp) ?_))
  refine Next.intro Md.q1 ⟨rfl, rfl, rfl, rfl, rfl, rfl, rfl, ⟨_, rfl⟩, rfl, rfl, rfl⟩ ((HP.out.setMode _).setPos' (j + 1 + 1) _ (by omega)) (pl.inside hk hi (by simp) (by simp)) hg (Stp.other hi hc.out (by decide) (by decide) (by decide))

set_option maxRecDepth 1000000 in
set_option maxHeartbeats 1000000 in
theorem case_quote_81_no {s : ByteArray} {back : Bool} {M N bb cap : Nat} {W0 : World} {ps : List (Nat × Nat)} {st j : Nat} {m : Md} {k : List Md} {vm vl : Value} {w : World}
    {K : Act → World → Prop} {Q0 : Exit → Act → World → Prop} (h : Inv s back M N bb W0 ps st (j + 1) m.str k vm vl w) (pl : Plan s back ps st (j + 1) k) (gd : Good m k) (hs : s.size ≤ 1000) (hi : j + 1 < s.size) (hc : Hid (m.code s[j + 1].toNat = 81)) (hk : k ≠ []) (qc : Nat) (hq : Hid ((quoteOk.data.toList.getD (s[j].toNat) 0).toNat = qc)) (hn : ((qc : Int) != 111) = true)
    (hK : ∀ a w, Next s back M N bb cap W0 (mu s st (j + 1) k) ⟨ps, st, j + 1, m, k⟩ a w → K a w) (uc : Int) (u3 u4 u5 u6 u13 u14 u15 u16 u17 u18 u19 u20 u21 u22 u23 u24 u25 u26 u27 u28 u29 u30 u31 u32 u33 u34 u35 u36 u37 u38 u39 u40 u41 u42 u43 u44 u45 u46 u47 u48 u49 u50 u51 u52 u53 u54 u55 u56 u57 u58 u59 u60 u61 u62 u63 u64 u65 u66 u67 u68 u69 u70 u71 u72 u73 u74 u75 u76 u77 u78 u79 u80 u81 u82 u83 u84 u85 u86 u87 u88 u89 u90 u91 u92 u93 u94 u95 u96 u97 u98 u99 u100 u101 u102 u103 u104 u105 u106 u107 u108 u109 u110 u111 u112 u113 u114 u115 u116 u117 u118 u119 u120 u121 u122 u123 u124 u125 u126 u127 u128 u129 u130 u131 u132 u133 u134 u135 u136 u137 u138 u139 u140 u141 u142 u143 u144 u145 u146 u147 u148 u149 u150 u151 u152 u153 u154 u155 u156 u157 u158 u159 u160 u161 u162 u163 u164 u165 u166 u167 u168 u169 u170 u171 u172 u173 u174 u175 u176 u177 u178 u179 u180 u181 u182 u183 u184 u185 u186 u187 u188 u189 u190 u191 u192 u193 u194 u195 u196 u197 u198 u199 u200 u201 u202 u203 u204 u205 u206 u207 u208 u209 u210 u211 u212 u213 u214 u215 u216 u217 u218 : Value) :
    Code.wp Try.prog body (Exit.then K Q0) ⟨#[.slice (some ⟨bb, 0, none⟩) s.size cap, .func (.func 7) #[] #[.pointer (some ⟨M + 1, 0, none⟩), .pointer (some ⟨M, 0, none⟩)], .nilFunc, u3, u4, u5, u6, .pointer (some ⟨N, 0, none⟩), .pointer (some ⟨N + 1, 0, none⟩), .int .i64 uc, .pointer (some ⟨N + 2, 0, none⟩), .pointer (some ⟨N + 3, 0, none⟩), .func (.func 9) #[] #[.pointer (some ⟨N, 0, none⟩), .pointer (some ⟨N + 2, 0, none⟩), .pointer (some ⟨N + 1, 0, none⟩), .pointer (some ⟨N + 3, 0, none⟩)], u13, u14, u15, u16, u17, u18, u19, u20, u21, u22, u23, u24, u25, u26, u27, u28, u29, u30, u31, u32, u33, u34, u35, u36, u37, u38, u39, u40, u41, u42, u43, u44, u45, u46, u47, u48, u49, u50, u51, u52, u53, u54, u55, u56, u57, u58, u59, u60, u61, u62, u63, u64, u65, u66, u67, u68, u69, u70, u71, u72, u73, u74, u75, u76, u77, u78, u79, u80, u81, u82, u83, u84, u85, u86, u87, u88, u89, u90, u91, u92, u93, u94, u95, u96, u97, u98, u99, u100, u101, u102, u103, u104, u105, u106, u107, u108, u109, u110, u111, u112, u113, u114, u115, u116, u117, u118, u119, u120, u121, u122, u123, u124, u125, u126, u127, u128, u129, u130, u131, u132, u133, u134, u135, u136, u137, u138, u139, u140, u141, u142, u143, u144, u145, u146, u147, u148, u149, u150, u151, u152, u153, u154, u155, u156, u157, u158, u159, u160, u161, u162, u163, u164, u165, u166, u167, u168, u169, u170, u171, u172, u173, u174, u175, u176, u177, u178, u179, u180, u181, u182, u183, u184, u185, u186, u187, u188, u189, u190, u191, u192, u193, u194, u195, u196, u197, u198, u199, u200, u201, u202, u203, u204, u205, u206, u207, u208, u209, u210, u211, u212, u213, u214, u215, u216, u217, u218], []⟩ w := by
  have cp := cell_of_one h.pos
  have cm := cell_of_one h.mode
  have fp := free_of_one h.pos
  have cb := h.buf (j + 1) hi
  have hb : s[j + 1].toNat < 256 := s[j + 1].toNat_lt
  have hsz : s[j + 1].toNat < m.str.size := by rw [Md.size]; omega
  have c1 := cell_of_one h.modes
  have f1 := free_of_one h.modes
  have fm := free_of_one h.mode
  have c0 := cell_of_one h.start
  have f0 := free_of_one h.start
  have hlt := h.size
  have H := hid h
  clear h
  have hst := pl.st_lt hk
  have cj := H.out.buf j (by omega)
  have hj : s[j].toNat < quoteOk.size := by have := s[j].toNat_lt; rw [quoteOk_size]; omega
  conv => arg 2; whnf
  go_wp2_with (first | (refine wpList_index_md rfl (.tmp 27) (.tmp 28) rfl m.str rfl (s[j + 1].toNat) rfl (by assumption) 81 hc.out ?_) | (refine wpList_index_md rfl _ (.tmp 115) rfl quoteOk (by kernel_rfl) (s[j].toNat) rfl (by assumption) qc hq.out ?_) | (go_at_call 9; refine (reset_any H.out).mono ?_; rintro e w' ⟨rfl, vm', H2⟩; have c2' := cell_of_one H2.pos; have f2' := free_of_one H2.pos; have HR := hid H2; clear H2))
  refine Next.intro Md.scan ⟨rfl, rfl, rfl, rfl, rfl, rfl, rfl, ⟨_, rfl⟩, rfl, rfl, rfl⟩ (HR.out.setPos' (st + 1) _ (by omega)) (pl.again hk st) (.inl ⟨rfl, rfl⟩) (Stp.other hi hc.out (by decide) (by decide) (by decide))

end Go.Proofs.Ytdbhgdnhdnfhiaa
