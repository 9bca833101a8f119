/- The keys of two objects are collected in a map, in whatever order; the loop over them: in plain Lean. -/
import Derived.Test.YtclnpjelgdoloaaOuter2
import Derived.Test.YtclnpjelgdoloaaDLen
import Derived.Maps.RangeWalk
namespace Go.Proofs.Ytclnpjelgdoloaa
open Go.RowKit Go.Maps
set_option linter.unusedVariables false

theorem keyOf9_inv {v : Value} {kl : Lit} (h : keyOf Try.prog 9 v = some kl) : ∃ x, v = .string x ∧ kl = keyLit x := by
  cases v <;> simp [keyOf, Try.underlying9, mapKey] at h
  obtain ⟨_, rfl⟩ := h
  exact ⟨_, rfl, rfl⟩

/-- The map D has the keys that A tells, and those of keys that are no longer to come. -/
def Coll (A : ByteArray → Prop) (keys : List ByteArray) (left : Lit → Bool) (D : DataW Value) : Prop :=
  Tidy D ∧ ∀ k, has D (keyLit k) = true ↔ A k ∨ (k ∈ keys ∧ left (keyLit k) = false)

theorem MapIs.has_iff {D : DataW Value} {keys : List ByteArray} {xs : Nat → Value} (h : MapIs D keys xs) (k : ByteArray) : has D (keyLit k) = true ↔ k ∈ keys := by
  rw [h.has_, List.any_eq_true]
  constructor
  · rintro ⟨x, hx, e⟩
    rw [← (sameKey_keyLit x k).1 e]
    exact hx
  · intro hk
    exact ⟨k, hk, (sameKey_keyLit k k).2 rfl⟩

theorem Coll.start {A : ByteArray → Prop} {D D1 : DataW Value} {keys : List ByteArray} {xs : Nat → Value} (ht : Tidy D) (h : ∀ k, has D (keyLit k) = true ↔ A k) (h1 : MapIs D1 keys xs) : Coll A keys (has D1) D := by
  refine ⟨ht, fun k => ?_⟩
  rw [h k]
  refine ⟨.inl, ?_⟩
  rintro (h2 | ⟨h2, h3⟩)
  · exact h2
  · rw [(h1.has_iff k).2 h2] at h3
    cases h3

theorem struck_iff (left : Lit → Bool) (x k : ByteArray) : (left (keyLit k) && !(keyLit k).sameKey (keyLit x)) = false ↔ left (keyLit k) = false ∨ k = x := by
  by_cases e : k = x
  · subst e
    simp [(sameKey_keyLit k k).2 rfl]
  · have : (keyLit k).sameKey (keyLit x) = false := by
      rcases h : (keyLit k).sameKey (keyLit x) with _ | _
      · rfl
      · exact absurd ((sameKey_keyLit k x).1 h) e
    simp [this, e]

theorem Coll.step {A : ByteArray → Prop} {D : DataW Value} {keys : List ByteArray} {left : Lit → Bool} (h : Coll A keys left D) {x : ByteArray} (hx : x ∈ keys) (d : DataW Value) : Coll A keys (fun z => left z && !z.sameKey (keyLit x)) (D.put (keyLit x) d) := by
  refine ⟨h.1.put (isKeyLit x) d, fun k => ?_⟩
  simp only [struck_iff]
  by_cases e : k = x
  · subst e
    rw [has_put_same h.1.isMap (isKeyLit k)]
    simp [hx]
  · rw [has_put_other (fun e' => e (keyLit_inj e')), h.2 k]
    simp [e]

theorem Coll.fin {A : ByteArray → Prop} {D : DataW Value} {keys : List ByteArray} {left : Lit → Bool} (h : Coll A keys left D) (hl : ∀ kl, left kl = false) (k : ByteArray) : has D (keyLit k) = true ↔ A k ∨ k ∈ keys := by
  rw [h.2 k]
  simp [hl]

theorem left_has {w : World} {b r n cnt : Nat} {D : DataW Value} {left : Lit → Bool} {kl : Lit} {y : DataW Value} (hat : ∀ zd, D.atKey kl zd = y) : has D kl = true := has_true_of_atKey hat

theorem ranges_move {w w' : World} {b r n cnt : Nat} {D : DataW Value} {left : Lit → Bool} (h : w.ranges Try.prog 9 heldElem b r n D left cnt) (hb : w'.heap[b]? = w.heap[b]?) (hr : w'.heap[r]? = w.heap[r]?) : w'.ranges Try.prog 9 heldElem b r n D left cnt := by
  obtain ⟨es, clock, since, seen, c0, h1, F, hs, hD, h2, rest⟩ := h
  exact ⟨es, clock, since, seen, c0, hb.trans h1, F, hs, hD, hr.trans h2, rest⟩

/-- The first two loops: the keys of one more object. -/
structure Gather (A : ByteArray → Prop) (keys : List ByteArray) (N m r n : Nat) (D : DataW Value) (w wr : World) (mk : Nat) (left : Lit → Bool) (cnt nk : Nat) (DK : DataW Value) : Prop where
  rg : wr.ranges Try.prog 9 heldElem m r n D left cnt
  own : wr.ownsMap Try.prog 9 heldElem mk nk DK
  le : nk + cnt ≤ N
  coll : Coll A keys left DK
  bel : Below w.heap.size w wr

/-- The loop over the collected keys. -/
structure OuterO (N0 n : Nat) (a b : V) (mk r nk : Nat) (DK : DataW Value) (w wr : World) (d : Value) (left : Lit → Bool) (cnt : Nat) (vs : List Value) (ps : List (List Step)) (done : List ByteArray) : Prop where
  rg : wr.ranges Try.prog 9 heldElem mk r nk DK left cnt
  nd : done.Nodup
  dn : ∀ k, k ∈ done ↔ k ∈ bothKeys a b ∧ left (keyLit k) = false
  cn : done.length + cnt ≤ nk
  perm : ps.Perm (done.flatMap (fun k => (Df n (a.look k) (b.look k)).map (.key k :: ·)))
  small : ps.length ≤ done.length * 300
  at_ : PathsAt wr N0 vs ps
  own : wr.ownsRow N0 53 1 d vs.length vs
  bel : Below w.heap.size w wr
  low : N0 ≤ wr.heap.size

theorem OuterO.fin {N0 n : Nat} {a b : V} {mk r nk : Nat} {DK : DataW Value} {w wr : World} {d : Value} {left : Lit → Bool} {cnt : Nat} {vs : List Value} {ps : List (List Step)} {done : List ByteArray} (h : OuterO N0 n a b mk r nk DK w wr d left cnt vs ps done)
    (hl : ∀ kl, left kl = false) (ha : a.keys.Nodup) (hb : b.keys.Nodup) : ps.Perm ((bothKeys a b).flatMap (fun k => (Df n (a.look k) (b.look k)).map (.key k :: ·))) := by
  refine h.perm.trans (List.Perm.flatMap_right _ (nodup_perm h.nd (bothKeys_nodup a b ha hb) fun k => ?_))
  rw [h.dn k]
  simp [hl]

theorem own_mono {w : World} {B B' : Nat} {e : TypeId} {s n : Nat} {v : Value} {xs : List Value} (h : w.ownsRow B e s v n xs) (hB : B' ≤ B) : w.ownsRow B' e s v n xs := by
  refine ⟨h.1, ?_⟩
  rcases h.2 with h2 | ⟨g, cap, cur, hv, hb', hr⟩
  · exact .inl h2
  · exact .inr ⟨g, cap, cur, hv, Nat.le_trans hB hb', hr⟩

/-- The loop's step turns the iterator alone. -/
theorem OuterO.stepped {N0 n : Nat} {a b : V} {mk r nk : Nat} {DK : DataW Value} {w wr w1 : World} {d : Value} {left : Lit → Bool} {cnt : Nat} {vs : List Value} {ps : List (List Step)} {done : List ByteArray} (h : OuterO N0 n a b mk r nk DK w wr d left cnt vs ps done)
    (hg : wr.grownBy w1 (some r)) (hr : r < N0) (hw : w.heap.size ≤ r) : PathsAt w1 N0 vs ps ∧ w1.ownsRow N0 53 1 d vs.length vs ∧ Below w.heap.size w w1 ∧ N0 ≤ w1.heap.size := by
  refine ⟨h.at_.kept ?_, own_turn h.own ?_, h.bel.grown hg h.bel.size (fun j e => by cases e; exact hw), Nat.le_trans h.low hg.size⟩
  · rintro k ⟨v, hv, e⟩
    obtain ⟨g, _, e', hb, hl, _⟩ := h.at_.mem v hv
    have e3 : k = g := by rw [e] at e'; exact Option.some.inj e'
    subst e3
    exact hg.block k hl (fun e => by cases e; omega)
  · intro k hk hl
    refine hg.block k hl (fun e => ?_)
    cases e
    rcases h.own.2 with ⟨hv, _⟩ | ⟨g, cap, cur, hv, hb, _⟩
    · rw [hv] at hk; cases hk
    · rw [hv] at hk
      simp only [Value.ownBlock, Option.some.injEq] at hk
      omega

/-- The inner loop begins: what was there lies below. -/
theorem inner_start {n0 : Nat} {w wr w2 : World} {d dsv : Value} {vs us : List Value} {ps qs : List (List Step)} (hat : PathsAt wr n0 vs ps) (hown : wr.ownsRow n0 53 1 d vs.length vs) (hbel : Below n0 w wr) (s : Step) (hn : n0 ≤ wr.heap.size) (hb : Below wr.heap.size wr w2) (hp : PathsAt w2 wr.heap.size us qs) (ho : w2.ownsRow wr.heap.size 53 1 dsv us.length us) :
    Inner n0 w w2 s us qs dsv d ps 0 vs := by
  refine ⟨?_, by simpa using hat.len, own_turn hown (fun k _ hk => hb.block k hk), ?_, ?_, hbel.trans (hb.mono hn), Nat.le_trans hn hb.size⟩
  · simp only [List.drop_zero, List.take_zero, List.map_nil, List.append_nil]
    refine (PathsAt.split hat.len).2 ⟨hat.kept ?_, hp.mono hn, ?_⟩
    · rintro k ⟨v, hv, e⟩
      obtain ⟨g, _, e', _, hl, _⟩ := hat.mem v hv
      have e3 : k = g := by rw [e] at e'; exact Option.some.inj e'
      subst e3
      exact hb.block k hl
    · intro v hv u hu e
      obtain ⟨g, _, e', _, hl, _⟩ := hat.mem v hv
      obtain ⟨g', _, e2, hl2, _, _⟩ := hp.mem u hu
      rw [e', e2] at e
      injection e with e
      omega
  · refine ⟨ho.1, ?_⟩
    rcases ho.2 with h2 | ⟨g, cap, cur, hv, hb', hr⟩
    · exact .inl h2
    · exact .inr ⟨g, cap, cur, hv, Nat.le_trans hn hb', hr⟩
  · rcases hown.2 with ⟨hv, _⟩ | ⟨g, cap, cur, hv, _, hg, _⟩
    · exact .inl (by rw [hv]; rfl)
    · rcases ho.2 with ⟨hv', _⟩ | ⟨g', cap', cur', hv', hb', _⟩
      · exact .inr (by rw [hv, hv']; simp [Value.ownBlock])
      · refine .inr fun e => ?_
        rw [hv, hv'] at e
        simp only [Value.ownBlock, Option.some.injEq] at e
        have : g < wr.heap.size := by
          rcases Nat.lt_or_ge g wr.heap.size with h' | h'
          · exact h'
          · simp [Array.getElem?_eq_none h'] at hg
        omega

/-- The inner loop has ended: one key more is done. -/
theorem Inner.outerO {N0 n : Nat} {a b : V} {mk r nk : Nat} {DK : DataW Value} {w wr w1 wq : World} {d d0 dsv : Value} {left : Lit → Bool} {cnt cnt1 : Nat} {vs vs0 us : List Value} {ps qs : List (List Step)} {done : List ByteArray} {k : ByteArray}
    (h : Inner N0 w1 wq (.key k) us qs dsv d ps us.length vs) (h0 : OuterO N0 n a b mk r nk DK w wr d0 left cnt vs0 ps done) (hl : us.length = qs.length) (hk : k ∈ bothKeys a b) (hlk : left (keyLit k) = true)
    (hrg : w1.ranges Try.prog 9 heldElem mk r nk DK (fun z => left z && !z.sameKey (keyLit k)) cnt1) (hc : cnt1 < cnt) (hw1 : Below w.heap.size w w1) (hN : w.heap.size ≤ N0) (hmk : mk < N0) (hr : r < N0)
    (hq : qs.Perm (Df n (a.look k) (b.look k))) (hq' : qs.length ≤ 300) : OuterO N0 n a b mk r nk DK w wq d (fun z => left z && !z.sameKey (keyLit k)) cnt1 vs (ps ++ qs.map (.key k :: ·)) (done ++ [k]) := by
  have hat := h.at_
  rw [hl] at hat
  simp only [← hl, List.drop_length, List.append_nil] at hat
  rw [hl] at hat
  simp only [List.drop_length, List.take_length, List.append_nil] at hat
  have hnot : k ∉ done := fun hm => by
    have := ((h0.dn k).1 hm).2
    rw [hlk] at this
    cases this
  refine ⟨?_, ?_, ?_, ?_, ?_, ?_, hat, h.own, hw1.trans (h.bel.mono hN), h.low⟩
  · exact ranges_move hrg (h.bel.block mk hmk) (h.bel.block r hr)
  · rw [List.nodup_append]
    exact ⟨h0.nd, by simp, fun x hx y hy e => hnot (by simp at hy; rw [← hy, ← e]; exact hx)⟩
  · intro x
    simp only [List.mem_append, List.mem_singleton, struck_iff, h0.dn x]
    constructor
    · rintro (h1 | rfl)
      · exact ⟨h1.1, .inl h1.2⟩
      · exact ⟨hk, .inr rfl⟩
    · rintro ⟨h1, h2 | h2⟩
      · exact .inl ⟨h1, h2⟩
      · exact .inr h2
  · have := h0.cn
    simp
    omega
  · rw [List.flatMap_append]
    refine h0.perm.append ?_
    simp only [List.flatMap_cons, List.flatMap_nil, List.append_nil]
    exact hq.map _
  · have := h0.small
    simp
    omega
end Go.Proofs.Ytclnpjelgdoloaa
