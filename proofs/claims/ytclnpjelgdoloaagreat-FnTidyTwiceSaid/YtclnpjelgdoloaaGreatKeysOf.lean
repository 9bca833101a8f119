/- impl.keysOf: the keys of a map, in some order. -/
import Derived.Test.YtclnpjelgdoloaaGreatItems
namespace Go.Proofs.YtclnpjelgdoloaaGreat
open Go.RowKit Go.Maps
set_option linter.unusedVariables false
set_option linter.unusedSimpArgs false

/-- The keys so far. -/
structure KeysAt (t : V) (b nD : Nat) (D : DataW Value) (r : Nat) (w0 wr : World) (left : Lit → Bool) (cnt : Nat) (v : Value) (ks : List ByteArray) : Prop where
  rg : wr.ranges Tryz.prog 9 heldElem b r nD D left cnt
  own : wr.ownsRow (r + 1) 9 1 v ks.length (ks.map Value.string)
  nd : ks.Nodup
  mem : ∀ k, k ∈ ks ↔ k ∈ t.keys ∧ left (keyLit k) = false
  bel : Below r w0 wr

section
variable {t : V} {b nD : Nat} {D : DataW Value} {r : Nat} {w0 wr w1 w3 : World} {left : Lit → Bool} {cnt cnt1 : Nat} {v v' : Value} {ks : List ByteArray} {X : Obj}

theorem KeysAt.low (h : KeysAt t b nD D r w0 wr left cnt v ks) : r < wr.heap.size := h.rg.lt

theorem KeysAt.own1 (h : KeysAt t b nD D r w0 wr left cnt v ks) (hg : wr.grownBy w1 (some r)) : (w1.alloc X).ownsRow (r + 1) 9 1 v ks.length (ks.map Value.string) :=
  ownsRow_move h.own fun g hg' => by
    have q := ownsRow_block h.own hg'
    have := hg.size
    rw [Below.heap_alloc _ _ _ (by omega), hg.block g q.2 (fun e => by cases e; omega)]

theorem KeysAt.next (h : KeysAt t b nD D r w0 wr left cnt v ks) {x : ByteArray} (hxt : x ∈ t.keys) (hx : left (keyLit x) = true) (hb : b < r) (hg : wr.grownBy w1 (some r)) (hrg : w1.ranges Tryz.prog 9 heldElem b r nD D (fun z => left z && !z.sameKey (keyLit x)) cnt1)
    (hown : w3.ownsRow (r + 1) 9 1 v' (ks.length + 1) (ks.map Value.string ++ [.string x])) (hg3 : (w1.alloc X).grownBy w3 v.ownBlock) :
    KeysAt t b nD D r w0 w3 (fun z => left z && !z.sameKey (keyLit x)) cnt1 v' (ks ++ [x]) := by
  have hl := h.low
  have hs1 := hg.size
  have esz : (w1.alloc X).heap.size = w1.heap.size + 1 := by simp
  have rowlt : ∀ k, v.ownBlock = some k → r + 1 ≤ k ∧ k < wr.heap.size := fun k e => ownsRow_block h.own e
  have nx : x ∉ ks := fun hm => by
    have := ((h.mem x).1 hm).2
    rw [hx] at this
    cases this
  have old : ∀ k, k ≤ r → w3.heap[k]? = w1.heap[k]? := fun k hk => by
    rw [hg3.block k (by omega) (fun e => by have := (rowlt k e.symm).1; omega), Below.heap_alloc _ _ _ (by omega)]
  refine ⟨ranges_move hrg (old b (by omega)) (old r (by omega)), ?_, ?_, fun k => ?_, ?_⟩
  · have e : (ks ++ [x]).length = ks.length + 1 := by simp
    rw [e, List.map_append]
    exact hown
  · rw [List.nodup_append]
    exact ⟨h.nd, by simp, fun a ha c hc e => nx (by simp at hc; rw [← hc, ← e]; exact ha)⟩
  · simp only [List.mem_append, List.mem_singleton, struck_iff, h.mem k]
    constructor
    · rintro (q | rfl)
      · exact ⟨q.1, .inl q.2⟩
      · exact ⟨hxt, .inr rfl⟩
    · rintro ⟨q1, q2 | q2⟩
      · exact .inl ⟨q1, q2⟩
      · exact .inr q2
  · exact ((h.bel.grown hg (by omega) (fun k e => by cases e; omega)).alloc (by have := (h.bel.grown hg (by omega) (fun k e => by cases e; omega)).size; omega) X).grown hg3 (by rw [esz]; omega) (fun k e => by have := (rowlt k e).1; omega)
end

def KeysPost (t : V) (w : World) (e : Ending) (w' : World) : Prop := ∃ (v : Value) (ks : List ByteArray), e = .returned v ∧ w'.ownsRow w.heap.size 9 1 v ks.length (ks.map Value.string) ∧ ks.Nodup ∧ (∀ k, k ∈ ks ↔ k ∈ t.keys) ∧ Below w.heap.size w w'

theorem ownsRow_low {w : World} {base base' e size n : Nat} {v : Value} {xs : List Value} (h : w.ownsRow base e size v n xs) (hb : base' ≤ base) : w.ownsRow base' e size v n xs := by
  refine ⟨h.1, ?_⟩
  rcases h.2 with h | ⟨g, cap, cur, hv, hg, rest⟩
  · exact .inl h
  · exact .inr ⟨g, cap, cur, hv, by omega, rest⟩

theorem info9 : (Tryz.prog.info? 9).map (fun i => (i.zero, i.size, i.bytes)) = some (some (.string ByteArray.empty), 1, 16) := by kernel_rfl

set_option maxRecDepth 100000 in
set_option maxHeartbeats 2000000 in
theorem keysOf_any (t : V) (b nD : Nat) (D : DataW Value) (xs : Nat → Value) (w : World) (hm : w.ownsMap Tryz.prog 9 heldElem b nD D) (hD : MapIs D t.keys xs) (hlen : t.keys.length ≤ 300) :
    Calls Tryz.prog 34 #[.map (some b)] w (KeysPost t w) := by
  have HM := hid hm
  have HL := hid hm.lt
  have HD := hid hD
  have HLe := hid hlen
  obtain ⟨i0, hi, hz0, hz1, hz2⟩ := info_parts info9
  clear hm hD hlen
  go_enter Tryz.func34, Tryz.ntmps34
  go_wp2_with (first
    | (at_range; go_loud (refine wpList_range_own _ rfl _ 66 rfl 9 20 K9 Tryz.underlying66 heldElem b nD D rfl HM.out ?_); intro w0 hrg0 hg0 hs0))
  go_frame
  have G0 : Hid (KeysAt t b nD D w.heap.size w w0 (has D) (Maps.size D) (.slice none 0 0) []) := hid (by
    refine ⟨hrg0, World.ownsRow_nil _ _ _ _, by simp, fun k => ?_, (Below.refl _ _).grown hg0 (Nat.le_refl _) (fun j hj => by cases hj)⟩
    constructor
    · intro h; simp at h
    · intro h
      have h2 := h.2
      rw [(HD.out.has_iff k).2 h.1] at h2
      cases h2)
  clear hrg0 hg0 hs0
  go_loopw [3] (fun s wr => ∃ (left : Lit → Bool) (cnt : Nat) (v : Value) (ks : List ByteArray), v = s ∧ Hid (KeysAt t b nD D w.heap.size w wr left cnt v ks)) (fun _ wr => wr.rangeLeft b w.heap.size)
  case atStart => exact ⟨_, _, _, _, rfl, G0⟩
  case round =>
    clear G0
    obtain ⟨left, cnt, v, ks, hv0, GG⟩ := hrel
    subst hv0
    go_wp2_with (first
      | (at_next; go_loud (refine wpList_next_ranges _ rfl _ rfl 9 K9 heldElem Value.string id (fun key kl h => by obtain ⟨x, h1, _⟩ := keyOf9_inv h; exact ⟨x, h1⟩) (fun v y _ => ⟨v, rfl⟩) b w.heap.size nD D left cnt rfl GG.out.rg ?_ ?_)))
    · intro hc0 hl0
      have HF := hid hl0
      clear hl0 hc0
      go_wp2_with (fail)
      go_ret
      have G := GG.out
      exact ⟨_, ks, rfl, ownsRow_low G.own (by omega), G.nd, fun k => by rw [G.mem k]; simp [HF.out], G.bel⟩
    · intro x c kl y1 y2 w1 cnt1 hkey hlk hv hat hrg1 hlt hg1 hs1 hen
      obtain ⟨x', hx', rfl⟩ := keyOf9_inv hkey
      cases hx'
      have HXK : Hid (x ∈ t.keys) := hid ((HD.out.has_iff x).1 (has_true_of_atKey hat))
      have HLEN : Hid (ks.length ≤ 300) := hid (Nat.le_trans (nodup_len GG.out.nd fun k hk' => ((GG.out.mem k).1 hk').1) HLe.out)
      have HR1 := hid hrg1
      have HG1 := hid hg1
      have HC := hid hlt
      have HLK := hid hlk
      have HB1 : Hid (w.heap.size + 1 ≤ w1.heap.size) := hid (by have := GG.out.low; have := hg1.size; omega)
      have OW1 : Hid ((w1.alloc (.cells #[.string x] 9)).ownsRow (w.heap.size + 1) 9 1 v ks.length (ks.map Value.string)) := hid (GG.out.own1 hg1)
      clear hkey hrg1 hg1 hlt hlk hv hat hs1
      go_wp2_with (first
        | (at_builtin; go_loud (refine wpList_append_own_at _ rfl (.tmp 11) (.tmp 13) 24 rfl (w.heap.size + 1) 9 i0 _ 1 16 Tryz.underlying24 hi hz0 hz1 hz2 rfl (by decide) v ks.length (ks.map Value.string) rfl OW1.out ⟨w1.heap.size, 0, none⟩ 1 1 [.string x] rfl rfl (cell_one_new _ _ _) (by intro u hu; simp at hu; subst hu; rfl) (by have := HLEN.out; unfold maxLen; omega) (by have := HLEN.out; omega) (by have := HB1.out; simp; omega) ?_); intro v' w3 hown3 hgrow3 hnil3 hat3; have DN := hid (GG.out.next HXK.out HLK.out HL.out HG1.out HR1.out hown3 hgrow3); clear hown3 hgrow3 hnil3 hat3))
      go_roundw
      case rel => exact ⟨_, _, _, _, rfl, DN⟩
      case measure => rw [DN.out.rg.left_eq, GG.out.rg.left_eq]; exact HC.out
end Go.Proofs.YtclnpjelgdoloaaGreat
