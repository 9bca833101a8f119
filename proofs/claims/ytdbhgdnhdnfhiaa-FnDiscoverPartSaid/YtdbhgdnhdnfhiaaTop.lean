/- impl.Discover and laws.finds: what they come to. -/
import Derived.Test.YtdbhgdnhdnfhiaaFind
namespace Go.Proofs.Ytdbhgdnhdnfhiaa
open Go.RowKit
set_option linter.unusedVariables false

section
variable {ops : Array Oper} {rest : List Oper} {o : Oper} {a : Act} {w : World} {Q : Exit → Act → World → Prop}

theorem wpList_convert_bytes (hgd : Region.wanted o (yielded ops a.tmps) = true) (x : Operand) (ho : o.op = .convert 9 27 x) (s : ByteArray) (hx : a.eval x = .string s) (hs : s.size ≤ 1000)
    (h : ∀ cap w1, Below w.heap.size w w1 → w1.heap.size = w.heap.size + 1 → s.size ≤ cap → cap ≤ maxLen → (∀ j (_ : j < s.size), w1.cell? ⟨w.heap.size, j, none⟩ = some (.int .u8 (s[j].toNat : Int))) →
      wpList Try.prog ops Q rest (a.put o.dst (.slice (some ⟨w.heap.size, 0, none⟩) s.size cap)) w1) : wpList Try.prog ops Q (o :: rest) a w := by
  refine BigFrame.wpList_want hgd fun K hK => ?_
  have hr := run_bytes_of_string (P := Try.prog) w 9 27 5 s Try.underlying9 Try.underlying27 Try.underlying5
  have hk := hK _ _ (h (grownCap w s.size 0 5) _ ((Below.refl _ w).drew.alloc (Nat.le_refl _) (.cells (bytesRow s (grownCap w s.size 0 5)) 5 ((bytesRow s (grownCap w s.size 0 5)).size, (bytesRow s (grownCap w s.size 0 5)).size + 1))) (by simp)
    (grownCap_ge _ _ _ _) (grownCap_le_maxLen _ _ _ _ (by unfold maxLen; omega)) (by
      intro j hj
      have := heap_alloc_new w.drew (.cells (bytesRow s (grownCap w s.size 0 5)) 5 ((bytesRow s (grownCap w s.size 0 5)).size, (bytesRow s (grownCap w s.size 0 5)).size + 1))
      rw [cell_of_row _ w.heap.size j _ 5 _ this, bytesRow_at s _ j hj]
      rfl))
  unfold Oper.wp execOp
  simp only [ho, hx, Sem.run_bind, Result.andThen_ok, hr]
  exact hk
end

/-- What Discover returns: the parts 'ps' of the text, in new memory. -/
def Told (s : ByteArray) (back : Bool) (w : World) (e : Ending) (w' : World) : Prop :=
  ∃ (ps : List (Nat × Nat)) (v : Value), e = .returned v ∧ w'.ownsRow w.heap.size 9 1 v ps.length (ps.map fun p => Value.string (s.extract p.1 p.2)) ∧ (∀ p ∈ ps, isPart s p) ∧ (back = false → ps.Pairwise (fun p q => p.2 ≤ q.1)) ∧ ps.length ≤ s.size ∧
    Below w.heap.size w w' ∧ ∃ st m k, Run s back ⟨ps, st, s.size, m, k⟩ ∧ (k = [] ∨ s.size ≤ st + 1)

theorem ownsRow_mono {w : World} {b b' : Nat} {e : TypeId} {v : Value} {n : Nat} {xs : List Value} (h : w.ownsRow b e 1 v n xs) (hb : b' ≤ b) : w.ownsRow b' e 1 v n xs := by
  refine ⟨h.1, ?_⟩
  rcases h.2 with h2 | ⟨g, cap, cur, h2, h3, h4⟩
  · exact .inl h2
  · exact .inr ⟨g, cap, cur, h2, Nat.le_trans hb h3, h4⟩

set_option maxRecDepth 100000 in
theorem find6_any {s : ByteArray} {back : Bool} {M bb cap : Nat} {W0 w : World} (lt1 : M + 1 < bb) (lt2 : bb < w.heap.size) (bk : w.heap[M]? = some (.cells #[.bool back] 4)) (lc : w.heap[M + 1]? = some (.cells #[.slice none 0 0] 22))
    (buf : ∀ j (_ : j < s.size), w.cell? ⟨bb, j, none⟩ = some (.int .u8 (s[j].toNat : Int))) (below : Below M W0 w) (hs : s.size ≤ 1000) (hcap : s.size ≤ cap) (hcapm : cap ≤ maxLen) :
    Calls Try.prog 6 #[.slice (some ⟨bb, 0, none⟩) s.size cap, .func (.func 7) #[] #[.pointer (some ⟨M + 1, 0, none⟩), .pointer (some ⟨M, 0, none⟩)]] w
      (fun e w' => e = .returned (.tuple #[]) ∧ FoundAll s back M w.heap.size W0 w') := by
  have H := hid (find_any lt1 lt2 bk lc buf below hs hcap hcapm)
  clear lt1 lt2 bk lc buf below hs hcap hcapm
  go_enter Try.func6, Try.ntmps6
  go_wp2_with (go_at_call 8; refine H.out.mono ?_; rintro e w' ⟨rfl, hF⟩; have HF := hid hF; clear hF)
  go_end0
  exact ⟨rfl, HF.out⟩

theorem told_of {s : ByteArray} {back : Bool} {w w' : World} {ps : List (Nat × Nat)} {vl : Value} {N : Nat} (hN : w.heap.size + 3 ≤ N)
    (hown : w'.ownsRow (N + 4) 9 1 vl ps.length (ps.map fun p => Value.string (s.extract p.1 p.2))) (he : ∀ p ∈ ps, isPart s p) (hch : back = false → ps.Pairwise (fun p q => p.2 ≤ q.1)) (hl : ps.length ≤ s.size)
    (hb : Below w.heap.size w w') (hrun : ∃ st m k, Run s back ⟨ps, st, s.size, m, k⟩ ∧ (k = [] ∨ s.size ≤ st + 1)) :
    Told s back w (.returned vl) (w'.setCell ⟨w.heap.size + 1, 0, none⟩ vl) :=
  ⟨ps, vl, rfl, ownsRow_mono (ownsRow_setCell_below hown (by simp; omega) _) (by omega), he, hch, hl, hb.setCell (by simp) _, hrun⟩

set_option maxRecDepth 100000 in
theorem discover_any (s : ByteArray) (back : Bool) (w : World) (hs : s.size ≤ 1000) : Calls Try.prog 4 #[.string s, .bool back] w (Told s back w) := by
  have hsz2 : ((w.alloc (.cells #[.bool back] 4)).alloc (.cells #[.slice none 0 0] 22)).heap.size = w.heap.size + 1 + 1 := by simp
  have hblk0 : ((w.alloc (.cells #[.bool back] 4)).alloc (.cells #[.slice none 0 0] 22)).heap[w.heap.size]? = some (.cells #[.bool back] 4) := by
    rw [Below.heap_alloc _ _ _ (by simp)]; exact heap_alloc_new _ _
  have hblk1 : ((w.alloc (.cells #[.bool back] 4)).alloc (.cells #[.slice none 0 0] 22)).heap[w.heap.size + 1]? = some (.cells #[.slice none 0 0] 22) := by
    have := heap_alloc_new (w.alloc (.cells #[.bool back] 4)) (.cells #[.slice none 0 0] 22)
    simpa using this
  have hbw : Below w.heap.size w ((w.alloc (.cells #[.bool back] 4)).alloc (.cells #[.slice none 0 0] 22)) := ((Below.refl _ w).alloc (Nat.le_refl _) _).alloc (by simp) _
  have H2 := hid hsz2
  have B0 := hid hblk0
  have B1 := hid hblk1
  have BW := hid hbw
  clear hsz2 hblk0 hblk1 hbw
  go_enter Try.func4, Try.ntmps4
  go_wp2_with (first
    | (refine wpList_convert_bytes rfl (.tmp 5) rfl s rfl hs ?_; intro cap w1 hbel hsz hcap hcapm hbuf; rw [H2.out] at hbel hsz hbuf; have BE := hid hbel; have SZ := hid hsz; have CM := hid hcapm; have BU := hid hbuf; clear hbel hsz hcapm hbuf)
    | (go_at_call 6
       refine (find6_any (s := s) (back := back) (M := w.heap.size) (bb := w.heap.size + 1 + 1) (cap := cap) (W0 := w) (by omega) (by rw [SZ.out]; omega) (by rw [BE.out.block _ (by omega)]; exact B0.out) (by rw [BE.out.block _ (by omega)]; exact B1.out)
         BU.out (BW.out.trans (BE.out.mono (by omega))) hs hcap CM.out).mono ?_
       rintro e w' ⟨rfl, ps, vl, hlc, hown, he, hch, hl, hb, hrun⟩
       have c1 := cell_of_one hlc
       have f1 := free_of_one hlc
       have HC := hid (cell_of_one (one_setCell (u := vl) hlc))
       have HT := hid (told_of (by rw [SZ.out]; omega) hown he hch hl hb hrun)
       rcases hown.2 with ⟨rfl, _⟩ | ⟨g, cp, cur, rfl, _⟩
       all_goals clear hlc hown he hch hl hb hrun))
  all_goals exact bodyPost_ret (by simp [results, Try.results4, go_sem, HC.out]) rfl HT.out

def x7y : ByteArray := ⟨#[120, 91, 55, 93, 121]⟩

theorem run_x7y {S : State} (h : Run x7y false S) : S = ⟨[], 0, 0, .scan, []⟩ ∨ S = ⟨[], 0, 1, .scan, []⟩ ∨ S = ⟨[], 1, 2, .arr, [.scan]⟩ ∨ S = ⟨[], 1, 3, .arr, [.scan]⟩ ∨ S = ⟨[(1, 4)], 1, 4, .scan, []⟩ ∨ S = ⟨[(1, 4)], 1, 5, .scan, []⟩ := by
  have hz : x7y.size = 5 := rfl
  induction h with
  | first => exact .inl rfl
  | step hr hs hm ih =>
    rcases ih with rfl | rfl | rfl | rfl | rfl | rfl
    · exact .inr (.inl (hs.pass (by rw [hz]; decide) (by kernel_rfl)))
    · exact .inr (.inr (.inl (hs.opens (by rw [hz]; decide) (by kernel_rfl) rfl)))
    · exact .inr (.inr (.inr (.inl (hs.pass (by rw [hz]; decide) (by kernel_rfl)))))
    · exact .inr (.inr (.inr (.inr (.inl (hs.closes (by rw [hz]; decide) (by kernel_rfl) rfl)))))
    · exact .inr (.inr (.inr (.inr (.inr (hs.pass (by rw [hz]; decide) (by kernel_rfl))))))
    · rcases hm with h | h
      · rw [hz] at h; exact absurd h (by decide)
      · exact absurd rfl h

theorem run_x7y_end {ps : List (Nat × Nat)} {st : Nat} {m : Md} {k : List Md} (h : Run x7y false ⟨ps, st, x7y.size, m, k⟩) : ps = [(1, 4)] := by
  have hz : x7y.size = 5 := rfl
  rw [hz] at h
  rcases run_x7y h with h | h | h | h | h | h <;> simp at h
  exact h.1

theorem x7y_part : x7y.extract 1 4 = ⟨#[91, 55, 93]⟩ := by kernel_rfl

set_option maxRecDepth 100000 in
theorem finds_any (w : World) : Calls Try.prog 5 #[] w (fun e w' => e = .returned (.bool true) ∧ Below w.heap.size w w') := by
  go_enter Try.func5, Try.ntmps5
  go_wp2_with (first
    | (go_at_call 4
       refine (discover_any x7y false _ (by decide)).mono ?_
       rintro e w' ⟨ps, v, rfl, hown, he, hch, hl, hb, st, m, k, hrun, hk⟩
       obtain rfl := run_x7y_end hrun
       rcases hown.2 with ⟨_, hn⟩ | ⟨g, cp, cur, rfl, _⟩
       · cases hn
       have hc : w'.cell? ⟨g, 0, none⟩ = some (.string ⟨#[91, 55, 93]⟩) := by
         rw [hown.cellAt 0 (by simp), ← x7y_part]
         rfl
       have HB := hid hb
       clear hown he hch hl hb hrun hk))
  go_ret
  exact ⟨rfl, HB.out⟩

end Go.Proofs.Ytdbhgdnhdnfhiaa
