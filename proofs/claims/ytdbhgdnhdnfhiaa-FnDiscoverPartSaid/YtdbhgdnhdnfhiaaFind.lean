/- discover.find as a whole: whatever the text, it returns, and what it has handed on are parts of the text. -/
import Derived.Test.YtdbhgdnhdnfhiaaRound
import Derived.Deep.CutBlock
namespace Go.Proofs.Ytdbhgdnhdnfhiaa
open Go.RowKit
set_option linter.unusedVariables false

theorem wp_scope_ghost {P : Program} {a : Act} {w : World} {Q : Exit → Act → World → Prop} {c rest : Code} (l : Nat) (I : Nat → Act → World → Prop) (hf : findLabel c l = some rest)
    (first : c.wp P (Exit.jump l (fun a w => ∃ n, I n a w) Q) a w)
    (pass : ∀ n a w, I n a w → rest.wp P (Exit.jump l (fun a' w' => ∃ n', n' < n ∧ I n' a' w') Q) a w) : (Code.scope c).wp P Q a w := by
  refine wp_scope_jumps l (fun a w => ∃ n, I n a w) (fun a w => leastOf (fun n => I n a w)) hf first ?_
  intro a w hI
  refine wp_mono (pass _ a w (leastOf_spec hI).1) ?_
  intro e a' w' hq
  cases e with
  | normal => exact hq
  | exit id => exact hq
  | goto l' =>
    obtain ⟨hl, n', hlt, hI'⟩ := hq
    exact ⟨hl, ⟨n', hI'⟩, Nat.lt_of_le_of_lt ((leastOf_spec ⟨n', hI'⟩).2 n' hI') hlt⟩
  | ret => exact hq
  | panic ch => exact hq
  | outgrown => exact hq

theorem wpList_neq_nilFunc {ops : Array Oper} {rest : List Oper} {o : Oper} {a : Act} {w : World} {Q : Exit → Act → World → Prop} (hgd : Region.wanted o (yielded ops a.tmps) = true) (x y : Operand) (ho : o.op = .binOp .neq 30 x y 30)
    (hx : a.eval x = .nilFunc) (hy : a.eval y = .nilFunc) (h : wpList Try.prog ops Q rest (a.put o.dst (.bool false)) w) : wpList Try.prog ops Q (o :: rest) a w := by
  refine BigFrame.wpList_want hgd fun K hK => ?_
  have hk := hK _ _ h
  clear h hK
  unfold Oper.wp execOp
  simp only [ho, hx, hy]
  go_simp
  exact hk

theorem loop_any {s : ByteArray} {back : Bool} {M N bb cap : Nat} {W0 : World} {a : Act} {w : World} {Q0 : Exit → Act → World → Prop} (n0 : Nat) (hA : At s back M N bb cap W0 n0 a w) (hs : s.size ≤ 1000) (hcap : s.size ≤ cap) (hcapm : cap ≤ maxLen)
    (hX : ∀ n a w', n ≤ n0 → AtEnd s back M N bb cap W0 n a w' → Q0 (.exit 0) a w') : (Code.loop body).wp Try.prog Q0 a w :=
  wp_loop_ghost (fun n a w => n ≤ n0 ∧ At s back M N bb cap W0 n a w) n0 ⟨Nat.le_refl _, hA⟩ (fun n a w ⟨hn, h⟩ => round_any h hs hcap hcapm (fun a w' hE => hX n a w' hn hE)
    (fun a w ⟨n', hlt, h'⟩ => ⟨n', hlt, by omega, h'⟩))

/-- What stands behind the loop. -/
def afterLoop : Code → Option Code
  | .seq (.block 0 _) c => some c
  | .seq a b => match afterLoop a with
    | some c => some c
    | .none => afterLoop b
  | .block _ c => afterLoop c
  | .scope c => afterLoop c
  | _ => .none
noncomputable def after : Code := (Try.f8.body.bind afterLoop).getD .skip

def scopeOf : Code → Option Code
  | .scope c => some c
  | .seq a b => match scopeOf a with
    | some c => some c
    | .none => scopeOf b
  | _ => .none
noncomputable def tail : Code := ((Try.f8.body.bind scopeOf).bind (findLabel · 0)).getD .skip

def FoundAll (s : ByteArray) (back : Bool) (M N : Nat) (W0 : World) (w : World) : Prop :=
  ∃ (ps : List (Nat × Nat)) (vl : Value), w.heap[M + 1]? = some (.cells #[vl] 22) ∧ w.ownsRow (N + 4) 9 1 vl ps.length (ps.map fun p => Value.string (s.extract p.1 p.2)) ∧ (∀ p ∈ ps, isPart s p) ∧ (back = false → ps.Pairwise (fun p q => p.2 ≤ q.1)) ∧ ps.length ≤ s.size ∧ Below M W0 w ∧ ∃ st m k, Run s back ⟨ps, st, s.size, m, k⟩ ∧ (k = [] ∨ s.size ≤ st + 1)

theorem FoundAll.of {s : ByteArray} {back : Bool} {M N bb : Nat} {W0 : World} {ps : List (Nat × Nat)} {st i : Nat} {m : ByteArray} {k : List Md} {vm vl : Value} {w : World} (h : Inv s back M N bb W0 ps st i m k vm vl w) {st' i' : Nat} {k' : List Md} (pl : Plan s back ps st' i' k') {m' : Md} (hr : Run s back ⟨ps, st', s.size, m', k'⟩) (hk : k' = [] ∨ s.size ≤ st' + 1) : FoundAll s back M N W0 w :=
  ⟨ps, vl, h.lc, h.found, pl.each, fun hb => (pl.chain hb).1, Nat.le_trans pl.kle pl.ile, h.below, st', m', k', hr, hk⟩

set_option maxRecDepth 1000000 in
set_option maxHeartbeats 1000000 in
theorem after_lit {s : ByteArray} {back : Bool} {M N bb cap : Nat} {W0 : World} {ps : List (Nat × Nat)} {st : Nat} {m : Md} {k : List Md} {vm vl : Value} {w : World} {Q : Exit → Act → World → Prop}
    (h : Inv s back M N bb W0 ps st s.size m.str k vm vl w) (pl : Plan s back ps st s.size k) (hr : Run s back ⟨ps, st, s.size, m, k⟩) (hs : s.size ≤ 1000)
    (hG : k ≠ [] → ∀ a w', Next s back M N bb cap W0 (mu s st s.size k) ⟨ps, st, s.size, m, k⟩ a w' → Q (.goto 0) a w') (hN : ∀ a w', a.defers = [] ∧ FoundAll s back M N W0 w' → Q .normal a w') (uc : Int) (u3 u4 u5 u6 u13 u14 u15 u16 u17 u18 u19 u20 u21 u22 u23 u24 u25 u26 u27 u28 u29 u30 u31 u32 u33 u34 u35 u36 u37 u38 u39 u40 u41 u42 u43 u44 u45 u46 u47 u48 u49 u50 u51 u52 u53 u54 u55 u56 u57 u58 u59 u60 u61 u62 u63 u64 u65 u66 u67 u68 u69 u70 u71 u72 u73 u74 u75 u76 u77 u78 u79 u80 u81 u82 u83 u84 u85 u86 u87 u88 u89 u90 u91 u92 u93 u94 u95 u96 u97 u98 u99 u100 u101 u102 u103 u104 u105 u106 u107 u108 u109 u110 u111 u112 u113 u114 u115 u116 u117 u118 u119 u120 u121 u122 u123 u124 u125 u126 u127 u128 u129 u130 u131 u132 u133 u134 u135 u136 u137 u138 u139 u140 u141 u142 u143 u144 u145 u146 u147 u148 u149 u150 u151 u152 u153 u154 u155 u156 u157 u158 u159 u160 u161 u162 u163 u164 u165 u166 u167 u168 u169 u170 u171 u172 u173 u174 u175 u176 u177 u178 u179 u180 u181 u182 u183 u184 u185 u186 u187 u188 u189 u190 u191 u192 u193 u194 u195 u196 u197 u198 u199 u200 u201 u202 u203 u204 u205 u206 u207 u208 u209 u210 u211 u212 u213 u214 u215 u216 u217 u218 : Value) :
    Code.wp Try.prog after Q ⟨#[.slice (some ⟨bb, 0, none⟩) s.size cap, .func (.func 7) #[] #[.pointer (some ⟨M + 1, 0, none⟩), .pointer (some ⟨M, 0, none⟩)], .nilFunc, u3, u4, u5, u6, .pointer (some ⟨N, 0, none⟩), .pointer (some ⟨N + 1, 0, none⟩), .int .i64 uc, .pointer (some ⟨N + 2, 0, none⟩), .pointer (some ⟨N + 3, 0, none⟩), .func (.func 9) #[] #[.pointer (some ⟨N, 0, none⟩), .pointer (some ⟨N + 2, 0, none⟩), .pointer (some ⟨N + 1, 0, none⟩), .pointer (some ⟨N + 3, 0, none⟩)], u13, u14, u15, u16, u17, u18, u19, u20, u21, u22, u23, u24, u25, u26, u27, u28, u29, u30, u31, u32, u33, u34, u35, u36, u37, u38, u39, u40, u41, u42, u43, u44, u45, u46, u47, u48, u49, u50, u51, u52, u53, u54, u55, u56, u57, u58, u59, u60, u61, u62, u63, u64, u65, u66, u67, u68, u69, u70, u71, u72, u73, u74, u75, u76, u77, u78, u79, u80, u81, u82, u83, u84, u85, u86, u87, u88, u89, u90, u91, u92, u93, u94, u95, u96, u97, u98, u99, u100, u101, u102, u103, u104, u105, u106, u107, u108, u109, u110, u111, u112, u113, u114, u115, u116, u117, u118, u119, u120, u121, u122, u123, u124, u125, u126, u127, u128, u129, u130, u131, u132, u133, u134, u135, u136, u137, u138, u139, u140, u141, u142, u143, u144, u145, u146, u147, u148, u149, u150, u151, u152, u153, u154, u155, u156, u157, u158, u159, u160, u161, u162, u163, u164, u165, u166, u167, u168, u169, u170, u171, u172, u173, u174, u175, u176, u177, u178, u179, u180, u181, u182, u183, u184, u185, u186, u187, u188, u189, u190, u191, u192, u193, u194, u195, u196, u197, u198, u199, u200, u201, u202, u203, u204, u205, u206, u207, u208, u209, u210, u211, u212, u213, u214, u215, u216, u217, u218], []⟩ w := by
  have hst : k ≠ [] → st < s.size := pl.st_lt
  obtain ⟨ad, cap', rfl⟩ := h.vm_form
  have c1 := cell_of_one h.modes
  have c0 := cell_of_one h.start
  have f0 := free_of_one h.start
  have H := hid h
  clear h
  by_cases hk : k = []
  · subst hk
    conv => arg 2; whnf
    go_wp2_with (refine wpList_neq_nilFunc rfl (.tmp 194) _ rfl rfl rfl ?_)
    first | exact hN _ _ ⟨rfl, FoundAll.of H.out pl hr (.inl rfl)⟩ | exact FoundAll.of H.out pl hr (.inl rfl)
  · have hk0 : 0 < k.length := List.length_pos_iff.2 hk
    have hst' := hst hk
    clear hst
    have H1 : Hid (Inv s back M N bb W0 ps (st + 1) s.size m.str k (.slice ad k.length cap') vl (w.setCell ⟨N, 0, none⟩ (.int .i64 ((st : Int) + 1)))) := hid (H.out.setStart (st + 1))
    by_cases hlt : st + 1 < s.size
    · conv => arg 2; whnf
      go_wp2_with (first | (refine wpList_neq_nilFunc rfl (.tmp 194) _ rfl rfl rfl ?_) | (go_at_call 9; refine (reset_any H1.out).mono ?_; rintro e w' ⟨rfl, vm', H2⟩; have HR := hid H2; clear H2))
      refine wp_goto ?_
      first | exact hG hk _ _ (Next.intro Md.scan ⟨rfl, rfl, rfl, rfl, rfl, rfl, rfl, ⟨_, rfl⟩, rfl, rfl, rfl⟩ HR.out (pl.again hk (st + 1)) (.inl ⟨rfl, rfl⟩) Stp.ended) | exact Next.intro Md.scan ⟨rfl, rfl, rfl, rfl, rfl, rfl, rfl, ⟨_, rfl⟩, rfl, rfl, rfl⟩ HR.out (pl.again hk (st + 1)) (.inl ⟨rfl, rfl⟩) Stp.ended
    · conv => arg 2; whnf
      go_wp2_with (refine wpList_neq_nilFunc rfl (.tmp 194) _ rfl rfl rfl ?_)
      first | exact hN _ _ ⟨rfl, FoundAll.of H1.out pl hr (.inr (by omega))⟩ | exact FoundAll.of H1.out pl hr (.inr (by omega))

theorem after_any {s : ByteArray} {back : Bool} {M N bb cap : Nat} {W0 : World} {n : Nat} {a : Act} {w : World} {Q : Exit → Act → World → Prop} (hA : AtEnd s back M N bb cap W0 n a w) (hs : s.size ≤ 1000)
    (hG : ∀ a w', (∃ n', n' < n ∧ At s back M N bb cap W0 n' a w') → Q (.goto 0) a w') (hN : ∀ a w', a.defers = [] ∧ FoundAll s back M N W0 w' → Q .normal a w') : Code.wp Try.prog after Q a w := by
  obtain ⟨ps, st, i, m, k, vm, vl, fr, h, pl, gd, rfl, rfl, hr⟩ := hA
  obtain ⟨g, _, rfl⟩ := act_out fr.defers fr.size
  have e0 : g 0 = .slice (some ⟨bb, 0, none⟩) s.size cap := fr.s0
  have e1 : g 1 = .func (.func 7) #[] #[.pointer (some ⟨M + 1, 0, none⟩), .pointer (some ⟨M, 0, none⟩)] := fr.s1
  have e2 : g 2 = .nilFunc := fr.s2
  have e7 : g 7 = .pointer (some ⟨N, 0, none⟩) := fr.s7
  have e8 : g 8 = .pointer (some ⟨N + 1, 0, none⟩) := fr.s8
  obtain ⟨uc, e9⟩ : ∃ uc : Int, g 9 = .int .i64 uc := fr.s9
  have e10 : g 10 = .pointer (some ⟨N + 2, 0, none⟩) := fr.s10
  have e11 : g 11 = .pointer (some ⟨N + 3, 0, none⟩) := fr.s11
  have e12 : g 12 = .func (.func 9) #[] #[.pointer (some ⟨N, 0, none⟩), .pointer (some ⟨N + 2, 0, none⟩), .pointer (some ⟨N + 1, 0, none⟩), .pointer (some ⟨N + 3, 0, none⟩)] := fr.s12
  rw [e0, e1, e2, e7, e8, e9, e10, e11, e12]
  exact after_lit h pl hr hs (fun hk a w' h' => hG a w' (h'.at hr (.inr hk))) hN _ _ _ _ _ _ _ _ _ _ _ _ _ _ _ _ _ _ _ _ _ _ _ _ _ _ _ _ _ _ _ _ _ _ _ _ _ _ _ _ _ _ _ _ _ _ _ _ _ _ _ _ _ _ _ _ _ _ _ _ _ _ _ _ _ _ _ _ _ _ _ _ _ _ _ _ _ _ _ _ _ _ _ _ _ _ _ _ _ _ _ _ _ _ _ _ _ _ _ _ _ _ _ _ _ _ _ _ _ _ _ _ _ _ _ _ _ _ _ _ _ _ _ _ _ _ _ _ _ _ _ _ _ _ _ _ _ _ _ _ _ _ _ _ _ _ _ _ _ _ _ _ _ _ _ _ _ _ _ _ _ _ _ _ _ _ _ _ _ _ _ _ _ _ _ _ _ _ _ _ _ _ _ _ _ _ _ _ _ _ _ _ _ _ _ _ _ _ _ _ _ _ _ _ _ _ _ _ _ _ _

/-- From the label on. -/
theorem tail_any {s : ByteArray} {back : Bool} {M N bb cap : Nat} {W0 : World} {n : Nat} {a : Act} {w : World} {Q : Exit → Act → World → Prop} (hA : At s back M N bb cap W0 n a w) (hs : s.size ≤ 1000) (hcap : s.size ≤ cap) (hcapm : cap ≤ maxLen)
    (hG : ∀ a w', (∃ n', n' < n ∧ At s back M N bb cap W0 n' a w') → Q (.goto 0) a w') (hN : ∀ a w', a.defers = [] ∧ FoundAll s back M N W0 w' → Q .normal a w') : Code.wp Try.prog (.seq (.block 0 (.loop body)) after) Q a w := by
  refine wp_seq (wp_block (loop_any n hA hs hcap hcapm ?_))
  intro n' a' w' hn hE
  exact after_any hE hs (fun a w' ⟨n2, h2, h3⟩ => hG a w' ⟨n2, by omega, h3⟩) hN

theorem tail_eq : tail = Code.seq .skip (.seq (.block 0 (.loop body)) after) := by kernel_rfl

theorem Inv.start0 {s : ByteArray} {back : Bool} {M bb : Nat} {W0 w : World} (lt1 : M + 1 < bb) (lt2 : bb < w.heap.size) (bk : w.heap[M]? = some (.cells #[.bool back] 4)) (lc : w.heap[M + 1]? = some (.cells #[.slice none 0 0] 22))
    (buf : ∀ j (_ : j < s.size), w.cell? ⟨bb, j, none⟩ = some (.int .u8 (s[j].toNat : Int))) (below : Below M W0 w) :
    Inv s back M w.heap.size bb W0 [] 0 0 Md.scan.str [] (.slice none 0 0) (.slice none 0 0)
      ((((w.alloc (.cells #[.int .i64 0] 3)).alloc (.cells #[.slice none 0 0] 22)).alloc (.cells #[.int .i64 0] 3)).alloc (.cells #[.string Md.scan.str] 9)) := by
  have hb : ∀ {u : World} {b : Nat} {o o' : Obj}, u.heap[b]? = some o' → (u.alloc o).heap[b]? = some o' := fun hb => by rw [Below.heap_alloc _ _ _ (lt_of_block hb)]; exact hb
  have s1 : ∀ (u : World) (o : Obj), (u.alloc o).heap.size = u.heap.size + 1 := fun u o => by simp
  refine ⟨lt1, lt2, by simp only [s1]; omega, hb (hb (hb (hb bk))), hb (hb (hb (hb lc))), ?_,
    hb (hb (hb (heap_alloc_new _ _))), hb (hb ?_), hb ?_, ?_, World.ownsRow_nil _ _ _ _, World.ownsRow_nil _ _ _ _, .inl rfl, ?_⟩
  · intro j hj
    have : ∀ {u : World} {o : Obj}, bb < u.heap.size → (u.alloc o).cell? ⟨bb, j, none⟩ = u.cell? ⟨bb, j, none⟩ := fun h => World.cell?_of_block (Below.heap_alloc _ _ _ h)
    rw [this (by simp only [s1]; omega), this (by simp only [s1]; omega), this (by simp only [s1]; omega), this lt2]
    exact buf j hj
  · have := heap_alloc_new (w.alloc (.cells #[.int .i64 0] 3)) (.cells #[.slice none 0 0] 22)
    simpa [s1] using this
  · have := heap_alloc_new ((w.alloc (.cells #[.int .i64 0] 3)).alloc (.cells #[.slice none 0 0] 22)) (.cells #[.int .i64 0] 3)
    simpa [s1] using this
  · have := heap_alloc_new (((w.alloc (.cells #[.int .i64 0] 3)).alloc (.cells #[.slice none 0 0] 22)).alloc (.cells #[.int .i64 0] 3)) (.cells #[.string Md.scan.str] 9)
    simpa [s1] using this
  · exact (((below.alloc (by omega) _).alloc (by simp only [s1]; omega) _).alloc (by simp only [s1]; omega) _).alloc (by simp only [s1]; omega) _

set_option maxRecDepth 1000000 in
set_option maxHeartbeats 1000000 in
theorem find_any {s : ByteArray} {back : Bool} {M bb cap : Nat} {W0 w : World} (lt1 : M + 1 < bb) (lt2 : bb < w.heap.size) (bk : w.heap[M]? = some (.cells #[.bool back] 4)) (lc : w.heap[M + 1]? = some (.cells #[.slice none 0 0] 22))
    (buf : ∀ j (_ : j < s.size), w.cell? ⟨bb, j, none⟩ = some (.int .u8 (s[j].toNat : Int))) (below : Below M W0 w) (hs : s.size ≤ 1000) (hcap : s.size ≤ cap) (hcapm : cap ≤ maxLen) :
    Calls Try.prog 8 #[.slice (some ⟨bb, 0, none⟩) s.size cap, .func (.func 7) #[] #[.pointer (some ⟨M + 1, 0, none⟩), .pointer (some ⟨M, 0, none⟩)], .nilFunc] w
      (fun e w' => e = .returned (.tuple #[]) ∧ FoundAll s back M w.heap.size W0 w') := by
  have H := hid (Inv.start0 lt1 lt2 bk lc buf below)
  have hlt1 := hid lt1
  have hlt2 := hid lt2
  clear bk lc buf below lt1 lt2
  go_enter Try.func8, Try.ntmps8
  refine wp_scope_ghost 0 (fun n a w' => At s back M w.heap.size bb cap W0 n a w') (rest := tail) (by kernel_rfl) ?_ ?_
  · go_upto_block 0 with (refine wpList_store_str rfl rfl (.tmp 11) (.const _) rfl _ rfl Md.scan.str (by kernel_rfl) (by go_simp) (by go_simp) ?_)
    rename_i K hK
    refine wp_label (hK _ _ ?_)
    exact tail_any (M := M) (N := w.heap.size) (bb := bb) (cap := cap) (W0 := W0) (back := back) (s := s) ⟨[], 0, 0, .scan, [], .slice none 0 0, .slice none 0 0, ⟨rfl, rfl, rfl, rfl, rfl, rfl, rfl, ⟨_, rfl⟩, rfl, rfl, rfl⟩, H.out, Plan.first s back 0, .inl ⟨rfl, rfl⟩, rfl, .first⟩ hs hcap hcapm (fun a w' ⟨n', _, h'⟩ => ⟨rfl, n', h'⟩) (fun a w' ⟨hd, hF⟩ => ⟨hd, .tuple #[], by simp [results, Try.results8, go_sem], rfl, hF⟩)
  · intro n a w' hA
    rw [tail_eq]
    refine wp_seq (wp_skip ?_)
    exact tail_any hA hs hcap hcapm (fun a w' h' => ⟨rfl, h'⟩) (fun a w' ⟨hd, hF⟩ => ⟨hd, .tuple #[], by simp [results, Try.results8, go_sem], rfl, hF⟩)
end Go.Proofs.Ytdbhgdnhdnfhiaa
