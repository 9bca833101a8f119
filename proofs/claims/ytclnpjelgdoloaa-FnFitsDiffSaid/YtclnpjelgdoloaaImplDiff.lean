/- impl.Diff, with nothing ignored: the places at which two values differ, in new memory. -/
import Derived.Test.YtclnpjelgdoloaaTrail
namespace Go.Proofs.Ytclnpjelgdoloaa
open Go.RowKit Go.Maps
set_option linter.unusedVariables false

/-- Two boxes. -/
def Two (n0 : Nat) (X Y : Array Value) (w : World) : Prop := w.heap[n0]? = some (.cells X 26 (0, 0)) ∧ w.heap[n0 + 1]? = some (.cells Y 26 (0, 0))

theorem Two.lt {n0 : Nat} {X Y : Array Value} {w : World} (h : Two n0 X Y w) : n0 + 2 ≤ w.heap.size := by
  rcases Nat.lt_or_ge (n0 + 1) w.heap.size with h' | h'
  · omega
  · have := h.2
    simp [Array.getElem?_eq_none h'] at this

theorem Two.below {n0 : Nat} {X Y : Array Value} {w w' : World} (h : Two n0 X Y w) (hb : Below w.heap.size w w') : Two n0 X Y w' := by
  have := h.lt
  exact ⟨(hb.block _ (by omega)).trans h.1, (hb.block _ (by omega)).trans h.2⟩

theorem Two.new (w : World) (X Y : Array Value) : Two w.heap.size X Y ((w.alloc (.cells X 26)).alloc (.cells Y 26)) := by
  constructor
  · rw [Below.heap_alloc _ _ _ (by simp), heap_alloc_new]
  · have h := heap_alloc_new (w.alloc (.cells X 26)) (.cells Y 26)
    simpa using h

/-- The cells of two boxes. -/
def Cells12 (n0 : Nat) (x0 x1 x2 x3 x4 x5 y0 y1 y2 y3 y4 y5 : Value) (w : World) : Prop :=
  w.cell? ⟨n0, 0, none⟩ = some x0 ∧ w.cell? ⟨n0, 1, none⟩ = some x1 ∧ w.cell? ⟨n0, 2, none⟩ = some x2 ∧ w.cell? ⟨n0, 3, none⟩ = some x3 ∧ w.cell? ⟨n0, 4, none⟩ = some x4 ∧ w.cell? ⟨n0, 5, none⟩ = some x5 ∧
  w.cell? ⟨n0 + 1, 0, none⟩ = some y0 ∧ w.cell? ⟨n0 + 1, 1, none⟩ = some y1 ∧ w.cell? ⟨n0 + 1, 2, none⟩ = some y2 ∧ w.cell? ⟨n0 + 1, 3, none⟩ = some y3 ∧ w.cell? ⟨n0 + 1, 4, none⟩ = some y4 ∧ w.cell? ⟨n0 + 1, 5, none⟩ = some y5

theorem Two.cells {n0 : Nat} {x0 x1 x2 x3 x4 x5 y0 y1 y2 y3 y4 y5 : Value} {w : World} (h : Two n0 #[x0, x1, x2, x3, x4, x5] #[y0, y1, y2, y3, y4, y5] w) : Cells12 n0 x0 x1 x2 x3 x4 x5 y0 y1 y2 y3 y4 y5 w := by
  obtain ⟨h1, h2⟩ := h
  refine ⟨?_, ?_, ?_, ?_, ?_, ?_, ?_, ?_, ?_, ?_, ?_, ?_⟩
  all_goals first
    | exact (cell_of_row _ _ _ _ 26 (0, 0) h1).trans rfl
    | exact (cell_of_row _ _ _ _ 26 (0, 0) h2).trans rfl

theorem Rep.six {w : World} {v : Value} {t : V} (h : Rep w v t) : ∃ x0 x1 x2 x3 x4 x5, v = .agg #[x0, x1, x2, x3, x4, x5] := by
  obtain ⟨la, ka, lc, kc, cs, ho⟩ := h.open_
  exact ⟨_, _, _, _, _, _, ho.eq⟩

inductive PlacesAt (w : World) (B : Nat) : List Value → List (List Step) → Prop
  | nil : PlacesAt w B [] []
  | cons (v : Value) (p : List Step) (vs : List Value) (ps : List (List Step)) (h : PlaceAt w B v p) (hs : PlacesAt w B vs ps) : PlacesAt w B (v :: vs) (p :: ps)

theorem PlaceAt.kept {w w' : World} {B : Nat} {v : Value} {p : List Step} (h : PlaceAt w B v p) (hk : ∀ (g : Nat) (c : Array Value), B ≤ g → w.heap[g]? = some (.cells c 3 (0, 0)) ∨ w.heap[g]? = some (.cells c 49 (0, 0)) → w'.heap[g]? = w.heap[g]?) : PlaceAt w' B v p := by
  obtain ⟨rs, h1, h2⟩ := h
  refine ⟨rs, h1.kept (fun g c hg hc => hk g c hg (.inl hc)), h2.1, ?_⟩
  rcases h2.2 with h0 | ⟨g, cap, cur, hv, hb, hg, hr⟩
  · exact .inl h0
  · exact .inr ⟨g, cap, cur, hv, hb, (hk g cur hb (.inr hg)).trans hg, hr⟩

theorem StepRow.mono {w : World} {B B' : Nat} {s : Option Step} {r : List Value} (h : StepRow w B s r) (hB : B' ≤ B) : StepRow w B' s r := by
  cases h with
  | wild => exact .wild
  | key s => exact .key s
  | idx n g hg hc => exact .idx n g (Nat.le_trans hB hg) hc

theorem PlaceAt.mono {w : World} {B B' : Nat} {v : Value} {p : List Step} (h : PlaceAt w B v p) (hB : B' ≤ B) : PlaceAt w B' v p := by
  obtain ⟨rs, h1, h2⟩ := h
  refine ⟨rs, ?_, own_mono h2 hB⟩
  clear h2
  generalize stepsOf p = q at h1
  induction h1 with
  | nil => exact .nil
  | cons s r ss rs h hs ih => exact .cons s r ss rs (h.mono hB) ih

theorem PlacesAt.mono {w : World} {B B' : Nat} {vs : List Value} {ps : List (List Step)} (h : PlacesAt w B vs ps) (hB : B' ≤ B) : PlacesAt w B' vs ps := by
  induction h with
  | nil => exact .nil
  | cons v p vs ps h hs ih => exact .cons v p vs ps (h.mono hB) ih

theorem PlacesAt.kept {w w' : World} {B : Nat} {vs : List Value} {ps : List (List Step)} (h : PlacesAt w B vs ps) (hk : ∀ (g : Nat) (c : Array Value), B ≤ g → w.heap[g]? = some (.cells c 3 (0, 0)) ∨ w.heap[g]? = some (.cells c 49 (0, 0)) → w'.heap[g]? = w.heap[g]?) : PlacesAt w' B vs ps := by
  induction h with
  | nil => exact .nil
  | cons v p vs ps h hs ih => exact .cons v p vs ps (h.kept hk) ih

theorem PlacesAt.snoc {w : World} {B : Nat} {vs : List Value} {ps : List (List Step)} (h : PlacesAt w B vs ps) {v : Value} {p : List Step} (hp : PlaceAt w B v p) : PlacesAt w B (vs ++ [v]) (ps ++ [p]) := by
  induction h with
  | nil => exact .cons _ _ _ _ hp .nil
  | cons v p vs ps h hs ih => exact .cons v p _ _ h ih

theorem lt_of_block {w : World} {g : Nat} {o : Obj} (h : w.heap[g]? = some o) : g < w.heap.size := by
  rcases Nat.lt_or_ge g w.heap.size with h' | h'
  · exact h'
  · simp [Array.getElem?_eq_none h'] at h

theorem PlacesAt.keptB {w w' : World} {B : Nat} {vs : List Value} {ps : List (List Step)} (h : PlacesAt w B vs ps) (hb : Below w.heap.size w w') : PlacesAt w' B vs ps :=
  h.kept fun g c _ hc => hb.block g (by rcases hc with hc | hc <;> exact lt_of_block hc)

/-- A row of slices grows: the places stay. -/
theorem grown33 {w w' : World} {B n : Nat} {o : Value} {xs : List Value} (ho : w.ownsRow B 33 1 o n xs) (hg : w.grownBy w' o.ownBlock) : ∀ (g : Nat) (c : Array Value), B ≤ g → w.heap[g]? = some (.cells c 3 (0, 0)) ∨ w.heap[g]? = some (.cells c 49 (0, 0)) → w'.heap[g]? = w.heap[g]? := by
  intro g c _ hc
  refine hg.block g (by rcases hc with hc | hc <;> exact lt_of_block hc) (fun e => ?_)
  rcases ho.2 with ⟨hv, _⟩ | ⟨g', cap, cur, hv, _, hb, _⟩
  · rw [hv] at e; cases e
  · rw [hv] at e
    simp only [Value.ownBlock, Option.some.injEq] at e
    subst e
    rcases hc with hc | hc
    all_goals
      rw [hb] at hc
      injection hc with hc
      injection hc with _ he _
      exact absurd he (by decide)

/-- In the loop: the first j places are there. -/
structure DiffIn (n0 : Nat) (w wr : World) (ps : List (List Step)) (o : Value) (j : Nat) (us : List Value) : Prop where
  at_ : PlacesAt wr n0 us (ps.take j)
  own : wr.ownsRow n0 33 1 o j us
  bel : Below n0 w wr

theorem DiffIn.next {n0 j : Nat} {w wr w1 w2 : World} {ps : List (List Step)} {o o' u : Value} {us : List Value} (x : Obj) (h : DiffIn n0 w wr ps o j us) (hj : j < ps.length) (hn : n0 ≤ wr.heap.size) (h1 : Below wr.heap.size wr w1) (hp : PlaceAt w1 wr.heap.size u ps[j])
    (hg : (w1.alloc x).grownBy w2 o.ownBlock) (hown : w2.ownsRow n0 33 1 o' (j + 1) (us ++ [u])) : DiffIn n0 w w2 ps o' (j + 1) (us ++ [u]) := by
  have o1 : (w1.alloc x).ownsRow n0 33 1 o j us := (own_turn h.own (fun k _ hk => h1.block k hk)).alloc x
  have ba : Below w1.heap.size w1 (w1.alloc x) := (Below.refl _ _).alloc (Nat.le_refl _) _
  refine ⟨?_, hown, ((h.bel.trans (h1.mono hn)).trans (ba.mono (Nat.le_trans hn h1.size))).grown hg (by have := h1.size; simp; omega) (own_ge h.own)⟩
  rw [take_succ_at ps j hj]
  exact (((h.at_.keptB h1).snoc (hp.mono hn)).keptB ba).kept (grown33 o1 hg)

def DiffPost (a b : V) (w : World) (e : Ending) (w' : World) : Prop := ∃ out us ps, e = .returned (.tuple #[out, .bool false]) ∧ ps.Perm (Df 150 a b) ∧ w'.ownsRow w.heap.size 33 1 out us.length us ∧ PlacesAt w' w.heap.size us ps ∧ Below w.heap.size w w'

theorem PlacesAt.len {w : World} {B : Nat} {vs : List Value} {ps : List (List Step)} (h : PlacesAt w B vs ps) : vs.length = ps.length := by
  induction h with
  | nil => rfl
  | cons v p vs ps h hs ih => simp [ih]

theorem PathsAt.at_j {w : World} {B : Nat} {vs : List Value} {ps : List (List Step)} (h : PathsAt w B vs ps) : ∀ j (h1 : j < vs.length) (h2 : j < ps.length), PathAt w B vs[j] ps[j] := by
  induction h with
  | nil => intro j h1; simp at h1
  | cons v p vs ps h hn hs ih =>
    intro j h1 h2
    cases j with
    | zero => exact h
    | succ j => exact ih j (by simpa using h1) (by simpa using h2)

theorem info33 : (Try.prog.info? 33).map (fun i => (i.zero, i.size, i.bytes)) = some (some (.slice none 0 0), 1, 24) := by kernel_rfl

theorem own_lt {w : World} {B : Nat} {e : TypeId} {s n : Nat} {v : Value} {xs : List Value} (h : w.ownsRow B e s v n xs) : ∀ k, v.ownBlock = some k → k < w.heap.size := by
  intro k hk
  rcases h.2 with ⟨hv, _⟩ | ⟨g, cap, cur, hv, hb, hg, _⟩
  · rw [hv] at hk; cases hk
  · rw [hv] at hk
    simp only [Value.ownBlock, Option.some.injEq] at hk
    subst hk
    exact lt_of_block hg

theorem stepsOf_pos (p : List Step) : 0 < (stepsOf p).length := by
  unfold stepsOf
  split
  · simp
  · rename_i h
    simp
    exact List.length_pos_iff.2 h

theorem place_slice {w : World} {B : Nat} {v : Value} {p : List Step} (h : PlaceAt w B v p) : ∃ g cap, v = .slice (some ⟨g, 0, none⟩) (stepsOf p).length cap := by
  obtain ⟨rs, _, h2⟩ := h
  rcases h2.2 with ⟨_, h0⟩ | ⟨g, cap, cur, hv, _⟩
  · have := stepsOf_pos p
    omega
  · exact ⟨g, cap, hv⟩

set_option maxRecDepth 100000 in
set_option maxHeartbeats 4000000 in
theorem implDiff_any (a b : V) (va vb : Value) (w : World) (ra : Rep w va a) (rb : Rep w vb b) (fa : Fine a) (fb : Fine b) : Calls Try.prog 8 #[va, vb, .slice none 0 0, .bool false] w (DiffPost a b w) := by
  obtain ⟨i0, hi, hz0, hz1, hz2⟩ := info_parts info33
  obtain ⟨x0, x1, x2, x3, x4, x5, rfl⟩ := ra.six
  obtain ⟨y0, y1, y2, y3, y4, y5, rfl⟩ := rb.six
  have T0 := hid (Two.new w #[x0, x1, x2, x3, x4, x5] #[y0, y1, y2, y3, y4, y5])
  have bb : Below w.heap.size w ((w.alloc (.cells #[x0, x1, x2, x3, x4, x5] 26)).alloc (.cells #[y0, y1, y2, y3, y4, y5] 26)) := ((Below.refl _ _).alloc (Nat.le_refl _) _).alloc (by simp) _
  have B0 := hid bb
  have RA := hid ra
  have RB := hid rb
  have FA := hid fa
  have FB := hid fb
  clear ra rb fa fb bb
  go_enter Try.func8, Try.ntmps8
  go_wp2_with (first
    | (refine wpList_loadBox rfl (.tmp 4) rfl w.heap.size rfl #[x0, x1, x2, x3, x4, x5] rfl (by first | exact T0.out.1 | exact T1.out.1 | exact T2.out.1 | exact T3.out.1) ?_)
    | (refine wpList_loadBox rfl (.tmp 5) rfl (w.heap.size + 1) rfl #[y0, y1, y2, y3, y4, y5] rfl (by first | exact T0.out.2 | exact T1.out.2 | exact T2.out.2 | exact T3.out.2) ?_)
    | (go_at_call_of 21 (Value.agg #[x0, x1, x2, x3, x4, x5]); refine (right_any _ a _ _ (Nat.le_refl _) (RA.out.kept B0.out) FA.out).mono ?_; rintro e w1 ⟨rfl, hb⟩; have T1 := hid (T0.out.below hb); have B1 := hid (B0.out.trans (hb.mono B0.out.size)); clear hb)
    | (go_at_call_of 21 (Value.agg #[y0, y1, y2, y3, y4, y5]); refine (right_any _ b _ _ (Nat.le_refl _) (RB.out.kept B1.out) FB.out).mono ?_; rintro e w2 ⟨rfl, hb⟩; have T2 := hid (T1.out.below hb); have B2 := hid (B1.out.trans (hb.mono B1.out.size)); clear hb)
    | (go_at_call_of 22 (Value.agg #[x0, x1, x2, x3, x4, x5]); refine (big_any _ a _ _ (Nat.le_refl _) (RA.out.kept B2.out) FA.out).mono ?_; rintro e w3 ⟨rfl, hb⟩; have T3 := hid (T2.out.below hb); have B3 := hid (B2.out.trans (hb.mono B2.out.size)); clear hb)
    | (go_at_call_of 22 (Value.agg #[y0, y1, y2, y3, y4, y5]); refine (big_any _ b _ _ (Nat.le_refl _) (RB.out.kept B3.out) FB.out).mono ?_; rintro e w4 ⟨rfl, hb⟩; have T4 := hid (T3.out.below hb); have B4 := hid (B3.out.trans (hb.mono B3.out.size)); clear hb))
  go_loopw [8, 10, 36] (fun o s k wr => o = .slice none 0 0 ∧ s = .slice none 0 0 ∧ k = .int .i64 0 ∧ wr = w4) (fun _ _ k _ => 0)
  case atStart => exact ⟨rfl, rfl, rfl, rfl⟩
  case round =>
    obtain ⟨rfl, rfl, rfl, rfl⟩ := hrel
    go_wp2_with (fail)
    have RAd : Hid (Rep wr.drew (.agg #[x0, x1, x2, x3, x4, x5]) a) := hid ((RA.out.kept B4.out).kept (Below.refl _ _).drew)
    have RBd : Hid (Rep wr.drew (.agg #[y0, y1, y2, y3, y4, y5]) b) := hid ((RB.out.kept B4.out).kept (Below.refl _ _).drew)
    have BD : Hid (Below w.heap.size w wr.drew) := hid B4.out.drew
    have S0 : Hid (Two w.heap.size #[x0, x1, x2, x3, x4, x5] #[y0, y1, y2, y3, y4, y5] wr.drew) := hid T4.out
    go_region_held3 (fun w' => w'.cell? ⟨w.heap.size, 0, none⟩ = some x0 ∧ w'.cell? ⟨w.heap.size, 1, none⟩ = some x1 ∧ w'.cell? ⟨w.heap.size, 2, none⟩ = some x2 ∧ w'.cell? ⟨w.heap.size, 3, none⟩ = some x3 ∧ w'.cell? ⟨w.heap.size, 4, none⟩ = some x4 ∧ w'.cell? ⟨w.heap.size, 5, none⟩ = some x5 ∧
        w'.cell? ⟨w.heap.size + 1, 0, none⟩ = some y0 ∧ w'.cell? ⟨w.heap.size + 1, 1, none⟩ = some y1 ∧ w'.cell? ⟨w.heap.size + 1, 2, none⟩ = some y2 ∧ w'.cell? ⟨w.heap.size + 1, 3, none⟩ = some y3 ∧ w'.cell? ⟨w.heap.size + 1, 4, none⟩ = some y4 ∧ w'.cell? ⟨w.heap.size + 1, 5, none⟩ = some y5)
      (first | exact S0.out.cells | exact SA.out.cells | exact SB.out.cells | exact SC.out.cells)
      (first
        | (go_at_call_of 25 (Value.agg #[x0, x1, x2, x3, x4, x5]); refine (plain_any _ a _ _ (Nat.le_refl _) (by first | exact RAd.out | exact RAd.out.kept BB.out) FA.out).mono ?_; rintro e wa ⟨xa, rfl, hx, hb⟩; have XA := hid hx; have BA := hid hb; clear hx hb; have SA := hid ((by first | exact S0.out | exact SB.out : Two w.heap.size #[x0, x1, x2, x3, x4, x5] #[y0, y1, y2, y3, y4, y5] _).below BA.out))
        | (go_at_call_of 25 (Value.agg #[y0, y1, y2, y3, y4, y5]); refine (plain_any _ b _ _ (Nat.le_refl _) (by first | exact RBd.out | exact RBd.out.kept BA.out) FB.out).mono ?_; rintro e wb ⟨xb, rfl, hx, hb⟩; have XB := hid hx; have BB := hid hb; clear hx hb; have SB := hid ((by first | exact S0.out | exact SA.out : Two w.heap.size #[x0, x1, x2, x3, x4, x5] #[y0, y1, y2, y3, y4, y5] _).below BB.out))
        | (go_at_call 27; (first
          | (refine (altDiff_any a b xa xb wb FA.out.wt FB.out.wt FA.out.wh FB.out.wh (XA.out.kept (Above.of_below BB.out)) XB.out).mono ?_; have BW : Hid (Below w.heap.size w wb) := hid ((BD.out.trans (BA.out.mono BD.out.size)).trans (BB.out.mono (Nat.le_trans BD.out.size BA.out.size))); have SW := SB)
          | (refine (altDiff_any a b xa xb wa FA.out.wt FB.out.wt FA.out.wh FB.out.wh XA.out (XB.out.kept (Above.of_below BA.out))).mono ?_; have BW : Hid (Below w.heap.size w wa) := hid ((BD.out.trans (BB.out.mono BD.out.size)).trans (BA.out.mono (Nat.le_trans BD.out.size BB.out.size))); have SW := SA)); rintro e w5 ⟨dv, vs, ps, rfl, h1, h2, h3⟩; have QP := hid h1; have PA := hid h2.at_; have OD := hid h2.own; have B5 : Hid (Below w.heap.size w w5) := hid (BW.out.trans (h3.mono BW.out.size)); have SC := hid (SW.out.below h3); obtain ⟨ad, dcap, rfl, had⟩ := row53 h2.own; have AD := hid had; clear h1 h2 h3 had))
    all_goals
      have ql : Hid (ps.length ≤ 300) := hid (by rw [QP.out.length_eq]; have h1 := Df_len 150 a b FA.out.wh FB.out.wh; have := FA.out.wt; have := FB.out.wt; omega)
      have pl : Hid (∀ p ∈ ps, p.length ≤ 1000) := hid (fun p hp => by have := Df_path 150 a b p (QP.out.mem_iff.1 hp); omega)
      have vl := hid PA.out.len
      have I0 : Hid (DiffIn w5.heap.size w5 w5 ps (.slice none 0 0) 0 []) := hid ⟨.nil, ⟨rfl, .inl ⟨rfl, rfl⟩⟩, Below.refl _ _⟩
      have W5 : Hid (w.heap.size ≤ w5.heap.size) := hid B5.out.size
      go_wp2_with (fail)
      go_loopw [8, 74] (fun o k wr => ∃ (j : Nat) (us : List Value), k = .int .i64 (j : Int) ∧ j ≤ vs.length ∧ Hid (DiffIn w5.heap.size w5 wr ps o j us)) (fun _ k _ => vs.length - (intOf k).toNat)
      case atStart => exact ⟨0, [], rfl, Nat.zero_le _, I0⟩
      case round =>
        obtain ⟨j, us, rfl, hj, DI⟩ := hrel
        by_cases hlt : j < vs.length
        · obtain ⟨gd, rfl⟩ : ∃ gd, ad = some ⟨gd, 0, none⟩ := by
            rcases AD.out with h0 | h0
            · omega
            · exact h0
          have hjp : j < ps.length := by rw [← vl.out]; exact hlt
          have hcd : wr.cell? ⟨gd, j, none⟩ = some vs[j] := cell_move ((OD.out.cellAt j (by omega)).trans (List.getElem?_eq_getElem hlt)) (DI.out.bel.block gd (own_lt OD.out _ rfl))
          have PJ := hid ((PA.out.at_j j hlt hjp).kept (fun k hk => DI.out.bel.block k (by obtain ⟨g, _, e, _, hl, _⟩ := PA.out.mem vs[j] (List.getElem_mem hlt); rw [hk] at e; injection e with e; rw [e]; exact hl)))
          obtain ⟨gj, capj, _, hvj, _⟩ := PJ.out.block
          have HV := hid hvj
          rw [hvj] at hcd
          have LW := hid DI.out.bel.size
          have v3 : vs.length ≤ 300 := by rw [vl.out]; exact ql.out
          clear hvj
          go_wp2_with (first
            | (go_at_call 26; refine (trailOf_any ps[j] _ wr _ (by rw [← HV.out]; exact PJ.out) (pl.out _ (List.getElem_mem hjp))).mono ?_; rintro e w6 ⟨u, rfl, hu, hb⟩; have PU := hid hu; have BU := hid hb; obtain ⟨gu, capu, rfl⟩ := place_slice hu; clear hu hb)
            | (at_builtin; go_loud (refine wpList_append_own_at _ rfl (.tmp 78) (.tmp 81) 29 rfl w5.heap.size 33 i0 (.slice none 0 0) 1 24 Try.underlying29 hi hz0 hz1 hz2 rfl (by decide) u8 j us rfl ((own_turn DI.out.own (fun k _ hk => BU.out.block k hk)).alloc _) _ 1 1 [.slice (some ⟨gu, 0, none⟩) (stepsOf ps[j]).length capu] rfl rfl (cell_one_new w6 _ 33) (slice_one _ _ _) (le_maxLen (by omega)) (by omega) (by have := LW.out; have := BU.out.size; simp; omega) ?_); intro v' w7 hown hgrow hnil hat; have OW := hid hown; have GR := hid hgrow; clear hown hgrow hnil hat))
          go_roundw
          case rel => exact ⟨j + 1, _, by simp, by omega, hid (DI.out.next _ hjp LW.out BU.out PU.out GR.out OW.out)⟩
          case measure => simp only [intOf]; omega
        · go_wp2_with (fail)
          go_ret2
          have ej : j = ps.length := by have := vl.out; omega
          have hat := DI.out.at_
          rw [ej, List.take_length] at hat
          have hown := DI.out.own
          have hul : us.length = j := by rw [hat.len, ej]
          rw [← hul] at hown
          exact ⟨_, us, ps, rfl, QP.out, own_mono hown W5.out, hat.mono W5.out, B5.out.trans (DI.out.bel.mono W5.out)⟩
end Go.Proofs.Ytclnpjelgdoloaa
