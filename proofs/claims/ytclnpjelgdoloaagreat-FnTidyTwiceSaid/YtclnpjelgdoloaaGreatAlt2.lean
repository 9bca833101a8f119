/- alt.alter at an object: the plain part. -/
import Derived.Test.YtclnpjelgdoloaaGreatAlt
namespace Go.Proofs.YtclnpjelgdoloaaGreat
open Go.RowKit Go.Maps
set_option linter.unusedVariables false
set_option linter.unusedSimpArgs false

/-- The object so far. -/
structure AltObj (on oe : Bool) (t : V) (lo hi b nD : Nat) (xs : ByteArray → Value) (los his : ByteArray → Nat) (w0 wr : World) (left : Lit → Bool) (cnt : Nat) (D : DataW Value) (m : ByteArray → V) : Prop where
  rg : wr.ranges Tryz.prog 9 heldElem b w0.heap.size nD D left cnt
  hasD : ∀ k, has D (keyLit k) = true ↔ k ∈ t.keys ∧ (left (keyLit k) = false → gone on oe (m k) = false)
  hasN : ∀ kl, has D kl = true → ∃ k, kl = keyLit k
  at_ : ∀ k, has D (keyLit k) = true → ∀ z, D.atKey (keyLit k) z = .held (xs k)
  done : ∀ k, k ∈ t.keys → left (keyLit k) = false → Tid on oe (t.look k) (m k) ∧ PSep wr (los k) (his k) (xs k) (m k)
  todo : ∀ k, k ∈ t.keys → left (keyLit k) = true → PSep wr (los k) (his k) (xs k) (t.look k)
  out : Outside lo hi w0 wr

section
variable {on oe : Bool} {t : V} {lo hi b nD : Nat} {xs : ByteArray → Value} {los his : ByteArray → Nat} {w0 wr w1 w2 : World} {left : Lit → Bool} {cnt cnt1 : Nat} {D : DataW Value} {m : ByteArray → V}

/-- Behind the step and the call: the world w2, in which the member at x is tidy and the map as it was. -/
structure AltMid (on oe : Bool) (t : V) (lo hi b nD : Nat) (xs : ByteArray → Value) (los his : ByteArray → Nat) (w0 w2 : World) (left : Lit → Bool) (cnt1 : Nat) (D : DataW Value) (m : ByteArray → V) (x : ByteArray) (t' : V) : Prop where
  rg : w2.ranges Tryz.prog 9 heldElem b w0.heap.size nD D (fun z => left z && !z.sameKey (keyLit x)) cnt1
  hasD : ∀ k, has D (keyLit k) = true ↔ k ∈ t.keys ∧ (left (keyLit k) = false → gone on oe (m k) = false)
  hasN : ∀ kl, has D kl = true → ∃ k, kl = keyLit k
  at_ : ∀ k, has D (keyLit k) = true → ∀ z, D.atKey (keyLit k) z = .held (xs k)
  xk : x ∈ t.keys
  xl : left (keyLit x) = true
  done : ∀ k, k ∈ t.keys → (left (keyLit k) && !(keyLit k).sameKey (keyLit x)) = false → Tid on oe (t.look k) (if k = x then t' else m k) ∧ PSep w2 (los k) (his k) (xs k) (if k = x then t' else m k)
  todo : ∀ k, k ∈ t.keys → (left (keyLit k) && !(keyLit k).sameKey (keyLit x)) = true → PSep w2 (los k) (his k) (xs k) (t.look k)
  out : Outside lo hi w0 w2

theorem struck_true (left : Lit → Bool) (x k : ByteArray) : (left (keyLit k) && !(keyLit k).sameKey (keyLit x)) = true ↔ left (keyLit k) = true ∧ k ≠ x := by
  have := struck_iff left x k
  constructor
  · intro h
    refine ⟨?_, fun e => ?_⟩
    · rcases e : left (keyLit k) with _ | _
      · rw [e] at h; simp at h
      · rfl
    · rw [this.2 (.inr e)] at h
      cases h
  · rintro ⟨h1, h2⟩
    rcases e : (left (keyLit k) && !(keyLit k).sameKey (keyLit x)) with _ | _
    · rcases this.1 e with h | h
      · rw [h1] at h; cases h
      · exact absurd h h2
    · rfl

theorem AltObj.mid (h : AltObj on oe t lo hi b nD xs los his w0 wr left cnt D m) (hb : lo ≤ b ∧ b < hi) (hsz : hi ≤ w0.heap.size) (hin : ∀ k, k ∈ t.keys → lo ≤ los k ∧ his k ≤ hi ∧ (b < los k ∨ his k ≤ b)) (hdis : ∀ k k', k ∈ t.keys → k' ∈ t.keys → k ≠ k' → his k ≤ los k' ∨ his k' ≤ los k)
    {x : ByteArray} {t' : V} (hxk : x ∈ t.keys) (hxl : left (keyLit x) = true) (hg : wr.grownBy w1 (some w0.heap.size)) (hrg : w1.ranges Tryz.prog 9 heldElem b w0.heap.size nD D (fun z => left z && !z.sameKey (keyLit x)) cnt1)
    (ht : Tid on oe (t.look x) t') (hp : PSep w2 (los x) (his x) (xs x) t') (ho : Outside (los x) (his x) w1 w2) : AltMid on oe t lo hi b nD xs los his w0 w2 left cnt1 D m x t' := by
  have hx := hin x hxk
  have s1 := h.out.size
  have s2 := hg.size
  have keep : ∀ k, k ∈ t.keys → k ≠ x → ∀ q, los k ≤ q → q < his k → q < wr.heap.size → w2.heap[q]? = wr.heap[q]? := fun k hk hne q h1 h2 h3 => by
    have hk' := hin k hk
    refine (ho.block q (by omega) ?_).trans (hg.block q h3 (fun e => by cases e; omega))
    rcases hdis k x hk hxk hne with g | g
    · exact .inl (by omega)
    · exact .inr (by omega)
  refine ⟨ranges_move hrg (ho.block _ hrg.owns.lt (by omega)) (ho.block _ hrg.lt (by omega)), h.hasD, h.hasN, h.at_, hxk, hxl, ?_, ?_, (h.out.grown hg (.inr (Nat.le_refl _))).trans (ho.mono hx.1 hx.2.1)⟩
  · intro k hk hl
    rw [struck_iff] at hl
    by_cases e : k = x
    · subst e
      simp only [if_true]
      exact ⟨ht, hp⟩
    · simp only [if_neg e]
      have := h.done k hk (by rcases hl with q | q; exact q; exact absurd q e)
      exact ⟨this.1, this.2.kept (keep k hk e)⟩
  · intro k hk hl
    rw [struck_true] at hl
    exact (h.todo k hk hl.1).kept (keep k hk hl.2)

/-- The member stays. -/
theorem AltMid.stay {x : ByteArray} {t' : V} (h : AltMid on oe t lo hi b nD xs los his w0 w2 left cnt1 D m x t') (hgone : gone on oe t' = false) : AltObj on oe t lo hi b nD xs los his w0 w2 (fun z => left z && !z.sameKey (keyLit x)) cnt1 D (fun k => if k = x then t' else m k) := by
  refine ⟨h.rg, ?_, h.hasN, h.at_, h.done, h.todo, h.out⟩
  intro k
  rw [struck_iff, h.hasD k]
  by_cases e : k = x
  · subst e
    simp [hgone, h.xk, h.xl]
  · simp [e]

/-- The member is left out. -/
theorem AltMid.drop {x : ByteArray} {t' : V} {w3 : World} {cnt2 : Nat} (h : AltMid on oe t lo hi b nD xs los his w0 w2 left cnt1 D m x t') (hgone : gone on oe t' = true) (hb : lo ≤ b ∧ b < hi) (hin : ∀ k, k ∈ t.keys → lo ≤ los k ∧ his k ≤ hi ∧ (b < los k ∨ his k ≤ b))
    (hrg : w3.ranges Tryz.prog 9 heldElem b w0.heap.size nD (D.del (keyLit x)) (fun z => (left z && !z.sameKey (keyLit x)) && !z.sameKey (keyLit x)) cnt2) (hm : w2.mapTurned w3 b) : AltObj on oe t lo hi b nD xs los his w0 w3 (fun z => left z && !z.sameKey (keyLit x)) cnt2 (D.del (keyLit x)) (fun k => if k = x then t' else m k) := by
  have hg := hm.grown
  have keep : ∀ k, k ∈ t.keys → ∀ q, los k ≤ q → q < his k → q < w2.heap.size → w3.heap[q]? = w2.heap[q]? := fun k hk q h1 h2 h3 => hg.block q h3 (fun e => by cases e; have := hin k hk; omega)
  have hT := h.rg.owns.tidy K9
  refine ⟨?_, ?_, ?_, ?_, fun k hk hl => ⟨(h.done k hk hl).1, (h.done k hk hl).2.kept (keep k hk)⟩, fun k hk hl => (h.todo k hk hl).kept (keep k hk), h.out.grown hg (.inl hb)⟩
  · have e : (fun z : Lit => (left z && !z.sameKey (keyLit x)) && !z.sameKey (keyLit x)) = fun z => left z && !z.sameKey (keyLit x) := by
      funext z
      cases left z <;> cases z.sameKey (keyLit x) <;> rfl
    rw [e] at hrg
    exact hrg
  · intro k
    rw [struck_iff]
    by_cases e : k = x
    · subst e
      rw [has_del_same]
      simp [hgone]
    · rw [has_del_other (fun e' => e (keyLit_inj e')), h.hasD k]
      simp [e]
  · intro kl hkl
    by_cases e : kl = keyLit x
    · exact ⟨x, e⟩
    · rw [has_del_other e] at hkl
      exact h.hasN kl hkl
  · intro k hk z
    by_cases e : k = x
    · subst e
      rw [has_del_same] at hk
      cases hk
    · have hne : keyLit k ≠ keyLit x := fun e' => e (keyLit_inj e')
      rw [has_del_other hne] at hk
      rw [atKey_del_other hne]
      exact h.at_ k hk z
end

theorem lookIn_map (m : ByteArray → V) : ∀ (ks : List ByteArray) (k : ByteArray), k ∈ ks → lookIn ks (ks.map m) k = m k
  | [], k, h => by simp at h
  | k0 :: ks, k, h => by
    simp only [List.map_cons, lookIn]
    by_cases e : k0 = k
    · rw [if_pos e, e]
    · rw [if_neg e]
      refine lookIn_map m ks k ?_
      rcases List.mem_cons.1 h with h | h
      · exact absurd h.symm e
      · exact h

/-- The loop has ended. -/
theorem AltObj.fin {on oe : Bool} {t : V} {lo hi b nD : Nat} {xs : ByteArray → Value} {los his : ByteArray → Nat} {w0 wr : World} {left : Lit → Bool} {cnt : Nat} {D : DataW Value} {m : ByteArray → V} (h : AltObj on oe t lo hi b nD xs los his w0 wr left cnt D m) (hl : ∀ kl, left kl = false) (hk : t.k = 8)
    (hb : lo ≤ b ∧ b < hi) (hn : nD ≤ 1000000) (hnd : t.keys.Nodup) (hin : ∀ k, k ∈ t.keys → lo ≤ los k ∧ his k ≤ hi ∧ (b < los k ∨ his k ≤ b)) (hdis : ∀ k k', k ∈ t.keys → k' ∈ t.keys → k ≠ k' → his k ≤ los k' ∨ his k' ≤ los k) :
    ∃ t', Tid on oe t t' ∧ PSep wr lo hi (.iface 66 (.map (some b))) t' := by
  obtain ⟨ks, hks⟩ : ∃ ks, ks = t.keys.filter (fun k => !gone on oe (m k)) := ⟨_, rfl⟩
  have mem : ∀ k, k ∈ ks ↔ k ∈ t.keys ∧ gone on oe (m k) = false := fun k => by
    rw [hks, List.mem_filter]
    simp
  have hnd' : ks.Nodup := by rw [hks]; exact hnd.filter _
  have hasK : ∀ k, has D (keyLit k) = true ↔ k ∈ ks := fun k => by
    rw [h.hasD k, mem k]
    simp [hl]
  refine ⟨.mk 8 0 0 ByteArray.empty (ks.map m) ks, .obj t _ hk rfl (by show ks.length = (ks.map m).length; simp) hnd' m (fun k hk' => (h.done k hk' (hl _)).1) (fun k => mem k) (fun k hk' => lookIn_map m ks k hk'), ?_⟩
  refine .obj lo hi (.mk 8 0 0 ByteArray.empty (ks.map m) ks) rfl b nD D xs los his hb.1 hb.2 h.rg.owns hn (h.rg.owns.tidy K9) ?_ (fun k hk' z => h.at_ k ((hasK k).2 hk') z) (by show ks.length = (ks.map m).length; simp) hnd' (fun k hk' => hin k ((mem k).1 hk').1) (fun k k' h1 h2 => hdis k k' ((mem k).1 h1).1 ((mem k').1 h2).1) (fun k hk' => ?_)
  · intro kl
    rw [Bool.eq_iff_iff]
    show _ ↔ ks.any (fun x => (keyLit x).sameKey kl) = true
    rw [List.any_eq_true]
    constructor
    · intro h1
      obtain ⟨k, rfl⟩ := h.hasN kl h1
      exact ⟨k, (hasK k).1 h1, (sameKey_keyLit k k).2 rfl⟩
    · rintro ⟨k, hk1, hk2⟩
      have : kl = keyLit k := Classical.byContradiction fun hne => by
        rw [sameKey_ne (Ne.symm hne)] at hk2
        cases hk2
      rw [this]
      exact (hasK k).2 hk1
  · have e : (V.mk 8 0 0 ByteArray.empty (ks.map m) ks).look k = m k := lookIn_map m ks k hk'
    rw [e]
    exact (h.done k ((mem k).1 hk').1 (hl _)).2
end Go.Proofs.YtclnpjelgdoloaaGreat
