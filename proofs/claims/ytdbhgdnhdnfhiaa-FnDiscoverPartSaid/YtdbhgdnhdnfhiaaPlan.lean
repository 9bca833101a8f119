/- Plain numbers and lists: where discover.find stands in the text, what it has found, which tables lie on its stack; what each kind of step makes of it. -/
import Derived.Test.YtdbhgdnhdnfhiaaMd
namespace Go.Proofs.Ytdbhgdnhdnfhiaa

/-- A stack of tables under a value: the scanning table, then arrays and objects. -/
def isBase (k : List Md) : Prop := ∃ l, k = Md.scan :: l ∧ ∀ x ∈ l, x = Md.arr ∨ x = Md.obj
def isV (m : Md) : Prop := m = .arr ∨ m = .obj ∨ m = .key ∨ m = .colon ∨ m = .pre ∨ m = .val
def isO (m : Md) : Prop := m = .arr ∨ m = .obj ∨ m = .pre
def isQ (m : Md) : Prop := m = .q1 ∨ m = .q2

def Good (m : Md) (k : List Md) : Prop :=
  (m = .scan ∧ k = []) ∨ (isV m ∧ isBase k) ∨ (isQ m ∧ ∃ k0 x, k = k0 ++ [x] ∧ isBase k0 ∧ isO x) ∨
    (m = .esc ∧ ∃ k0 x y, k = k0 ++ [x] ++ [y] ∧ isBase k0 ∧ isO x ∧ isQ y) ∨ (m = .u ∧ ∃ k0 x y, k = k0 ++ [x] ++ [y] ++ [.esc] ∧ isBase k0 ∧ isO x ∧ isQ y)

theorem isBase.ne {k : List Md} (h : isBase k) : k ≠ [] := by obtain ⟨l, rfl, _⟩ := h; simp
theorem isBase.snoc {k : List Md} (h : isBase k) {x : Md} (hx : x = .arr ∨ x = .obj) : isBase (k ++ [x]) := by
  obtain ⟨l, rfl, hl⟩ := h
  refine ⟨l ++ [x], rfl, ?_⟩
  intro y hy
  rcases List.mem_append.1 hy with hy | hy
  · exact hl y hy
  · rw [List.mem_singleton] at hy
    rw [hy]
    exact hx
theorem isBase.scan : isBase [.scan] := ⟨[], rfl, by simp⟩
theorem isBase.last {k : List Md} (h : isBase k) : k = [.scan] ∨ ∃ k0 x, k = k0 ++ [x] ∧ isBase k0 ∧ (x = .arr ∨ x = .obj) := by
  obtain ⟨l, rfl, hl⟩ := h
  rcases List.eq_nil_or_concat l with rfl | ⟨l0, x, rfl⟩
  · exact .inl rfl
  · refine .inr ⟨.scan :: l0, x, by simp, ⟨l0, rfl, fun y hy => hl y (by simp [hy])⟩, hl x (by simp)⟩

theorem Good.scan_iff {m : Md} {k : List Md} (h : Good m k) : m = .scan ↔ k = [] := by
  rcases h with ⟨rfl, rfl⟩ | ⟨hm, hk⟩ | ⟨hm, k0, x, rfl, _⟩ | ⟨rfl, k0, x, y, rfl, _⟩ | ⟨rfl, k0, x, y, rfl, _⟩
  · simp
  · have := hk.ne
    constructor
    · rintro rfl; simp [isV] at hm
    · intro h; exact absurd h this
  · constructor
    · rintro rfl; simp [isQ] at hm
    · simp
  · simp
  · simp

/-- At most this far back does the search go again. -/
def pt (st i : Nat) (k : List Md) : Nat := if k = [] then i else st

def isPart (s : ByteArray) (p : Nat × Nat) : Prop :=
  p.1 + 2 ≤ p.2 ∧ p.2 ≤ s.size ∧ (s.data.toList.getD p.1 0 = 91 ∨ s.data.toList.getD p.1 0 = 123) ∧ (s.data.toList.getD (p.2 - 1) 0 = 93 ∨ s.data.toList.getD (p.2 - 1) 0 = 125)

structure Plan (s : ByteArray) (back : Bool) (ps : List (Nat × Nat)) (st i : Nat) (k : List Md) : Prop where
  ile : i ≤ s.size
  depth : k.length ≤ i
  opened : k ≠ [] → st < i ∧ (s.data.toList.getD st 0 = 91 ∨ s.data.toList.getD st 0 = 123)
  count : ps.length ≤ pt st i k
  each : ∀ p ∈ ps, isPart s p
  chain : back = false → ps.Pairwise (fun p q => p.2 ≤ q.1) ∧ ∀ p ∈ ps, p.2 ≤ pt st i k

def mu (s : ByteArray) (st i : Nat) (k : List Md) : Nat := (s.size + 1 - pt st i k) * (s.size + 2) + (s.size + 1 - i)

section
variable {s : ByteArray} {back : Bool} {ps : List (Nat × Nat)} {st i : Nat} {k k' : List Md}

theorem mu_lt_of_pt {p p' i i' n : Nat} (h : p < p') (hp : p' ≤ n) : (n + 1 - p') * (n + 2) + (n + 1 - i') < (n + 1 - p) * (n + 2) + (n + 1 - i) := by
  have h1 : (n + 1 - p') * (n + 2) + (n + 2) ≤ (n + 1 - p) * (n + 2) := by
    have : n + 1 - p' + 1 ≤ n + 1 - p := by omega
    calc (n + 1 - p') * (n + 2) + (n + 2) = (n + 1 - p' + 1) * (n + 2) := by rw [Nat.add_mul]; omega
      _ ≤ (n + 1 - p) * (n + 2) := Nat.mul_le_mul_right _ this
  omega

theorem Plan.kle (h : Plan s back ps st i k) : ps.length ≤ i := by
  have := h.count
  unfold pt at this
  split at this
  · exact this
  · rename_i hk
    have := (h.opened hk).1
    omega

theorem Plan.st_lt (h : Plan s back ps st i k) (hk : k ≠ []) : st < i := (h.opened hk).1

/-- A step inside a value. -/
theorem Plan.inside (h : Plan s back ps st i k) (hk : k ≠ []) (hi : i < s.size) (hk' : k' ≠ []) (hl : k'.length ≤ k.length + 1) : Plan s back ps st (i + 1) k' ∧ mu s st (i + 1) k' < mu s st i k := by
  have e : pt st (i + 1) k' = pt st i k := by simp [pt, hk, hk']
  refine ⟨⟨by omega, by have := h.depth; omega, fun _ => ⟨by have := h.st_lt hk; omega, (h.opened hk).2⟩, by rw [e]; exact h.count, h.each, fun hb => by rw [e]; exact h.chain hb⟩, ?_⟩
  unfold mu
  rw [e]
  omega

/-- A step between values. -/
theorem Plan.outside (h : Plan s back ps st i []) (hi : i < s.size) : Plan s back ps st (i + 1) [] ∧ mu s st (i + 1) [] < mu s st i [] := by
  have hc := h.count
  simp only [pt, if_true] at hc
  refine ⟨⟨by omega, by simp, fun e => absurd rfl e, by simp only [pt, if_true]; omega, h.each, fun hb => ⟨(h.chain hb).1, fun p hp => ?_⟩⟩, ?_⟩
  · have := (h.chain hb).2 p hp
    simp only [pt, if_true] at this ⊢
    omega
  · unfold mu
    simp only [pt, if_true]
    exact mu_lt_of_pt (by omega) (by omega)

/-- A value begins. -/
theorem Plan.begin (h : Plan s back ps st i []) (hi : i < s.size) (ho : s.data.toList.getD i 0 = 91 ∨ s.data.toList.getD i 0 = 123) (hk' : k' ≠ []) (hl : k'.length ≤ 1) : Plan s back ps i (i + 1) k' ∧ mu s i (i + 1) k' < mu s st i [] := by
  have hc := h.count
  simp only [pt, if_true] at hc
  refine ⟨⟨by omega, by omega, fun _ => ⟨by omega, ho⟩, by simp only [pt, if_neg hk']; omega, h.each, fun hb => ⟨(h.chain hb).1, fun p hp => ?_⟩⟩, ?_⟩
  · have := (h.chain hb).2 p hp
    simp only [pt, if_true, if_neg hk'] at this ⊢
    omega
  · unfold mu
    simp only [pt, if_true, if_neg hk']
    omega

/-- The search goes back to the place behind the value's begin. -/
theorem Plan.again (h : Plan s back ps st i k) (hk : k ≠ []) (st' : Nat) : Plan s back ps st' (st + 1) [] ∧ mu s st' (st + 1) [] < mu s st i k := by
  have hst := h.st_lt hk
  have hi := h.ile
  have hc := h.count
  simp only [pt, if_neg hk] at hc
  refine ⟨⟨by omega, by simp, fun e => absurd rfl e, by simp only [pt, if_true]; omega, h.each, fun hb => ⟨(h.chain hb).1, fun p hp => ?_⟩⟩, ?_⟩
  · have := (h.chain hb).2 p hp
    simp only [pt, if_true, if_neg hk] at this ⊢
    omega
  · unfold mu
    simp only [pt, if_true, if_neg hk]
    exact mu_lt_of_pt (by omega) (by omega)

/-- A value is found. -/
theorem Plan.found (h : Plan s back ps st i k) (hk : k ≠ []) (hi : i < s.size) (hc : s.data.toList.getD i 0 = 93 ∨ s.data.toList.getD i 0 = 125) (i' : Nat) (hi' : i' = if back then st else i) :
    Plan s back (ps ++ [(st, i + 1)]) st (i' + 1) [] ∧ mu s st (i' + 1) [] < mu s st i k := by
  have hst := h.st_lt hk
  have hcn := h.count
  simp only [pt, if_neg hk] at hcn
  have hi2 : st ≤ i' ∧ i' ≤ i := by rw [hi']; split <;> omega
  refine ⟨⟨by omega, by simp, fun e => absurd rfl e, by simp only [pt, if_true, List.length_append, List.length_singleton]; omega, ?_, ?_⟩, ?_⟩
  · intro p hp
    rcases List.mem_append.1 hp with hp | hp
    · exact h.each p hp
    · rw [List.mem_singleton] at hp
      rw [hp]
      exact ⟨by show st + 2 ≤ i + 1; omega, by show i + 1 ≤ s.size; omega, (h.opened hk).2, by simpa using hc⟩
  · intro hb
    subst hb
    simp only [Bool.false_eq_true, if_false] at hi'
    subst hi'
    obtain ⟨h1, h2⟩ := h.chain rfl
    simp only [pt, if_neg hk] at h2
    simp only [pt, if_true]
    refine ⟨List.pairwise_append.2 ⟨h1, by simp, ?_⟩, ?_⟩
    · intro p hp q hq
      rw [List.mem_singleton] at hq
      rw [hq]
      exact h2 p hp
    · intro p hp
      rcases List.mem_append.1 hp with hp | hp
      · have := h2 p hp; omega
      · rw [List.mem_singleton] at hp
        rw [hp]
        exact Nat.le_refl _
  · unfold mu
    simp only [pt, if_true, if_neg hk]
    exact mu_lt_of_pt (by omega) (by omega)

theorem Plan.first (s : ByteArray) (back : Bool) (st : Nat) : Plan s back [] st 0 [] := ⟨by omega, by simp, fun e => absurd rfl e, by simp, by simp, by simp⟩
end

/-- Where the search stands: what it has found, the value's begin, the place, the table, the stack. -/
structure State where
  ps : List (Nat × Nat)
  st : Nat
  i : Nat
  m : Md
  k : List Md

noncomputable def State.code (s : ByteArray) (S : State) : Nat := S.m.code (s.data.toList.getD S.i 0).toNat

/-- What is told of one step of the search: of bytes that are passed over, of a bracket that begins a value, of the bracket that ends it. -/
structure Stp (s : ByteArray) (back : Bool) (S S' : State) : Prop where
  pass : S.i < s.size → S.code s = 46 → S' = ⟨S.ps, S.st, S.i + 1, S.m, S.k⟩
  opens : S.i < s.size → S.code s = 91 → S.m = .scan → S' = ⟨S.ps, S.i, S.i + 1, .arr, [.scan]⟩
  closes : S.i < s.size → S.code s = 93 → S.k = [.scan] → S' = ⟨S.ps ++ [(S.st, S.i + 1)], S.st, (if back then S.st else S.i) + 1, .scan, []⟩

theorem getD_at (s : ByteArray) {i : Nat} (hi : i < s.size) : s.data.toList.getD i 0 = s[i] := by
  rw [List.getD_eq_getElem?_getD, List.getElem?_eq_getElem (by simpa using hi)]
  simp only [Option.getD_some, Array.getElem_toList]
  rfl

section
variable {s : ByteArray} {back : Bool} {ps : List (Nat × Nat)} {st i : Nat} {m : Md} {k : List Md} {S' : State}
theorem Stp.other (hi : i < s.size) {c : Nat} (hc : m.code s[i].toNat = c) (h1 : c ≠ 46) (h2 : c ≠ 91) (h3 : c ≠ 93) : Stp s back ⟨ps, st, i, m, k⟩ S' := by
  have e : State.code s ⟨ps, st, i, m, k⟩ = c := by unfold State.code; rw [getD_at s hi, hc]
  exact ⟨fun _ h => absurd (e.symm.trans h) h1, fun _ h => absurd (e.symm.trans h) h2, fun _ h => absurd (e.symm.trans h) h3⟩
theorem Stp.dot (hi : i < s.size) (hc : m.code s[i].toNat = 46) : Stp s back ⟨ps, st, i, m, k⟩ ⟨ps, st, i + 1, m, k⟩ := by
  have e : State.code s ⟨ps, st, i, m, k⟩ = 46 := by unfold State.code; rw [getD_at s hi, hc]
  exact ⟨fun _ _ => rfl, fun _ h => absurd (e.symm.trans h) (by decide), fun _ h => absurd (e.symm.trans h) (by decide)⟩
theorem Stp.openA (hi : i < s.size) (hc : m.code s[i].toNat = 91) (h : m = .scan → S' = ⟨ps, i, i + 1, .arr, [.scan]⟩) : Stp s back ⟨ps, st, i, m, k⟩ S' := by
  have e : State.code s ⟨ps, st, i, m, k⟩ = 91 := by unfold State.code; rw [getD_at s hi, hc]
  exact ⟨fun _ h => absurd (e.symm.trans h) (by decide), fun _ _ hm => h hm, fun _ h => absurd (e.symm.trans h) (by decide)⟩
theorem Stp.close (hi : i < s.size) (hc : m.code s[i].toNat = 93) (h : k = [.scan] → S' = ⟨ps ++ [(st, i + 1)], st, (if back then st else i) + 1, .scan, []⟩) : Stp s back ⟨ps, st, i, m, k⟩ S' := by
  have e : State.code s ⟨ps, st, i, m, k⟩ = 93 := by unfold State.code; rw [getD_at s hi, hc]
  exact ⟨fun _ h => absurd (e.symm.trans h) (by decide), fun _ h => absurd (e.symm.trans h) (by decide), fun _ _ hk => h hk⟩
theorem Stp.ended : Stp s back ⟨ps, st, s.size, m, k⟩ S' := ⟨fun h => absurd h (Nat.lt_irrefl _), fun h => absurd h (Nat.lt_irrefl _), fun h => absurd h (Nat.lt_irrefl _)⟩
end

/-- Where the search may come. -/
inductive Run (s : ByteArray) (back : Bool) : State → Prop
  | first : Run s back ⟨[], 0, 0, .scan, []⟩
  | step {S S' : State} : Run s back S → Stp s back S S' → (S.i < s.size ∨ S.k ≠ []) → Run s back S'

end Go.Proofs.Ytdbhgdnhdnfhiaa
