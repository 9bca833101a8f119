/- laws.whereTold, unrooted, samePlace; slices.EqualFunc at places. -/
import Derived.Test.YtclnpjelgdoloaaStep
namespace Go.Proofs.Ytclnpjelgdoloaa
open Go.RowKit Go.Maps
set_option linter.unusedVariables false

/-- A slice in memory that reads as steps. -/
def StepsAt (w : World) (v : Value) (ss : List (Option Step)) : Prop :=
  ∃ ad cap, v = .slice ad ss.length cap ∧ ∀ j (hj : j < ss.length), ∃ g r, ad = some ⟨g, 0, none⟩ ∧ StepRow w 0 ss[j] r ∧ ∀ i u, r[i]? = some u → w.cell? ⟨g, j * 13 + i, none⟩ = some u

theorem StepsAt.kept {w w' : World} {v : Value} {ss : List (Option Step)} (h : StepsAt w v ss) (hb : Below w.heap.size w w') : StepsAt w' v ss := by
  obtain ⟨ad, cap, hv, hj⟩ := h
  refine ⟨ad, cap, hv, fun j hlt => ?_⟩
  obtain ⟨g, r, h1, h2, h3⟩ := hj j hlt
  exact ⟨g, r, h1, h2.kept (fun g c _ hc => hb.block g (lt_of_block hc)), fun i u hu => (hb.cell (World.block_lt_of_cell? w _ (h3 i u hu))).trans (h3 i u hu)⟩

theorem StepsAt.nil (w : World) : StepsAt w (.slice none 0 0) [] := ⟨none, 0, rfl, fun j hj => absurd hj (by simp)⟩

theorem flatten_at : ∀ (rs : List (List Value)), (∀ r ∈ rs, r.length = 13) → ∀ j i, (hj : j < rs.length) → i < 13 → rs.flatten[j * 13 + i]? = rs[j][i]?
  | [], _, j, _, h, _ => by simp at h
  | r :: rs, hl, j, i, hj, hi => by
    have h0 : r.length = 13 := hl r (by simp)
    cases j with
    | zero =>
      simp only [List.flatten_cons, Nat.zero_mul, Nat.zero_add, List.getElem_cons_zero]
      rw [List.getElem?_append_left (by omega)]
    | succ j =>
      have := flatten_at rs (fun r hr => hl r (by simp [hr])) j i (by simpa using hj) hi
      simp only [List.flatten_cons, List.getElem_cons_succ]
      rw [List.getElem?_append_right (by omega), ← this]
      congr 1
      omega

theorem Rows.len {w : World} {B : Nat} {ss : List (Option Step)} {rs : List (List Value)} (h : Rows w B ss rs) : ss.length = rs.length := by
  induction h with
  | nil => rfl
  | cons s r ss rs h hs ih => simp [ih]

theorem Rows.at_j {w : World} {B : Nat} {ss : List (Option Step)} {rs : List (List Value)} (h : Rows w B ss rs) : ∀ j (h1 : j < ss.length) (h2 : j < rs.length), StepRow w B ss[j] rs[j] := by
  induction h with
  | nil => intro j h1; simp at h1
  | cons s r ss rs h hs ih =>
    intro j h1 h2
    cases j with
    | zero => exact h
    | succ j => exact ih j (by simpa using h1) (by simpa using h2)

theorem Rows.all13 {w : World} {B : Nat} {ss : List (Option Step)} {rs : List (List Value)} (h : Rows w B ss rs) : ∀ r ∈ rs, r.length = 13 := by
  induction h with
  | nil => intro r hr; simp at hr
  | cons s r ss rs h hs ih =>
    intro u hu
    rcases List.mem_cons.1 hu with rfl | hu
    · exact h.lenEq
    · exact ih u hu

theorem PlaceAt.steps {w : World} {B : Nat} {v : Value} {p : List Step} (h : PlaceAt w B v p) : StepsAt w v (stepsOf p) := by
  obtain ⟨rs, h1, h2⟩ := h
  have hl := h1.len
  rcases h2.2 with ⟨_, h0⟩ | ⟨g, cap, cur, hv, hb, hg, hr⟩
  · have := stepsOf_pos p
    omega
  · refine ⟨some ⟨g, 0, none⟩, cap, hv, fun j hj => ⟨g, rs[j]'(by omega), rfl, (h1.at_j j hj (by omega)).mono (Nat.zero_le _), fun i u hu => ?_⟩⟩
    have hi : i < 13 := by
      have := (List.getElem?_eq_some_iff.1 hu).1
      rw [h1.all13 _ (List.getElem_mem (by omega))] at this
      exact this
    rw [← flatten_at rs h1.all13 j i (by omega) hi] at hu
    subst hv
    exact (h2.cellAt (j * 13 + i) (by omega)).trans hu

def kindOf : Option Step → Int
  | none => 5
  | some (.key _) => 3
  | some (.idx _) => 4

theorem StepRow.kind {w : World} {B : Nat} {s : Option Step} {r : List Value} (h : StepRow w B s r) : r[0]? = some (.int .i64 (kindOf s)) := by
  cases h <;> rfl

/-- The wildcard alone stands for the whole: whereTold gives the place's own steps. -/
def ToldPost (p : List Step) (w : World) (e : Ending) (w' : World) : Prop := ∃ v, e = .returned v ∧ StepsAt w v (p.map some) ∧ w' = w

set_option maxRecDepth 100000 in
theorem whereTold_any (p : List Step) (v : Value) (w : World) (h : StepsAt w v (stepsOf p)) : Calls Try.prog 12 #[v] w (ToldPost p w) := by
  obtain ⟨ad, cap, rfl, hj⟩ := id h
  have hpos := stepsOf_pos p
  obtain ⟨g, r, rfl, h2, h3⟩ := hj 0 hpos
  have c0 := h3 0 _ h2.kind
  rw [Nat.zero_mul, Nat.zero_add] at c0
  by_cases hp : p = []
  · subst hp
    have e0 : (stepsOf ([] : List Step)).length = 1 := rfl
    have ek : kindOf (stepsOf ([] : List Step))[0] = 5 := rfl
    rw [ek] at c0
    rw [e0]
    have HN := hid (StepsAt.nil w)
    clear h hj h2 h3 hpos e0 ek
    go_enter Try.func12, Try.ntmps12
    go_wp2_with (fail)
    go_ret
    exact ⟨_, rfl, HN.out, rfl⟩
  · have es : stepsOf p = p.map some := by unfold stepsOf; rw [if_neg hp]
    have HS : Hid (StepsAt w (.slice (some ⟨g, 0, none⟩) (stepsOf p).length cap) (p.map some)) := hid (by rw [← es]; exact h)
    have hk : kindOf (stepsOf p)[0] = 3 ∨ kindOf (stepsOf p)[0] = 4 := by
      have : (stepsOf p)[0] = some (p[0]'(List.length_pos_iff.2 hp)) := by simp [es]
      rw [this]
      cases p[0]'(List.length_pos_iff.2 hp)
      · exact .inr rfl
      · exact .inl rfl
    obtain ⟨k, hkk⟩ : ∃ k, k = kindOf (stepsOf p)[0] := ⟨_, rfl⟩
    rw [← hkk] at c0 hk
    clear hkk
    by_cases h1 : (stepsOf p).length = 1
    · rw [h1] at HS ⊢
      clear h hj h2 h3 hpos es h1
      rcases hk with hk | hk
      all_goals
        rw [hk] at c0
        clear hk
        go_enter Try.func12, Try.ntmps12
        go_wp2_with (fail)
        go_ret
        exact ⟨_, rfl, HS.out, rfl⟩
    · have t1 : (((stepsOf p).length : Int) == 1) = false := by rw [beq_eq_false_iff_ne]; omega
      clear h hj h2 h3 hpos es h1 hk
      go_enter Try.func12, Try.ntmps12
      go_wp2_with (fail)
      go_ret
      exact ⟨_, rfl, HS.out, rfl⟩

def SameV (v : Value) (w : World) (e : Ending) (w' : World) : Prop := e = .returned v ∧ w' = w

set_option maxRecDepth 100000 in
theorem unrooted_any (p : List Step) (v : Value) (w : World) (h : StepsAt w v (p.map some)) : Calls Try.prog 30 #[v] w (SameV v w) := by
  obtain ⟨ad, cap, rfl, hj⟩ := id h
  by_cases hp : p = []
  · subst hp
    have e0 : (([] : List Step).map some).length = 0 := rfl
    rw [e0]
    clear h hj e0
    go_enter Try.func30, Try.ntmps30
    go_wp2_with (fail)
    go_loopw [0] (fun v wr => v = .slice ad 0 cap ∧ wr = w) (fun _ _ => 0)
    case atStart => exact ⟨rfl, rfl⟩
    case round =>
      obtain ⟨rfl, rfl⟩ := hrel
      go_wp2_with (fail)
      go_ret
      exact ⟨rfl, rfl⟩
  · have hpos : 0 < (p.map some).length := by simpa using List.length_pos_iff.2 hp
    obtain ⟨g, r, rfl, h2, h3⟩ := hj 0 hpos
    have c0 := h3 0 _ h2.kind
    rw [Nat.zero_mul, Nat.zero_add] at c0
    have hk : kindOf (p.map some)[0] = 3 ∨ kindOf (p.map some)[0] = 4 := by
      have : (p.map some)[0] = some (p[0]'(List.length_pos_iff.2 hp)) := by simp
      rw [this]
      cases p[0]'(List.length_pos_iff.2 hp)
      · exact .inr rfl
      · exact .inl rfl
    obtain ⟨n, hn⟩ : ∃ n, n = (p.map some).length := ⟨_, rfl⟩
    rw [← hn] at hpos ⊢
    clear h hj h2 h3 hn
    rcases hk with hk | hk
    all_goals
      rw [hk] at c0
      clear hk
      go_enter Try.func30, Try.ntmps30
      go_wp2_with (fail)
      go_loopw [0] (fun v wr => v = .slice (some ⟨g, 0, none⟩) n cap ∧ wr = w) (fun _ _ => 0)
      case atStart => exact ⟨rfl, rfl⟩
      case round =>
        obtain ⟨rfl, rfl⟩ := hrel
        go_wp2_with (fail)
        go_ret
        exact ⟨rfl, rfl⟩

section
variable {ops : Array Oper} {rest : List Oper} {o : Oper} {a : Act} {w : World} {Q : Exit → Act → World → Prop}

/-- A step of a place is loaded, whole. -/
theorem wpList_load49 (hgd : Region.wanted o (yielded ops a.tmps) = true) (x : Operand) (ho : o.op = .load 49 x) (b off : Nat) (hx : a.eval x = .pointer (some ⟨b, off, none⟩)) (r : List Value) (hr : r.length = 13)
    (hc : ∀ i u, r[i]? = some u → w.cell? ⟨b, off + i, none⟩ = some u) (h : wpList Try.prog ops Q rest (a.put o.dst (.agg r.toArray)) w) : wpList Try.prog ops Q (o :: rest) a w := by
  refine BigFrame.wpList_want hgd fun K hK => ?_
  have hk := hK _ _ h
  have hl := run_loadCells_list (P := Try.prog) w ⟨b, off, none⟩ r (fun j v hj => by
    have hadd : (⟨b, off, none⟩ : Addr).add j = ⟨b, off + j, none⟩ := by unfold Addr.add; split <;> simp_all
    rw [hadd]
    exact hc j v hj)
  clear h hK
  unfold Oper.wp execOp
  simp only [ho, hx, Instr.loadAt, Instr.sureAddr, Sem.run_bind, Sem.run_pure, Result.andThen_ok, loadVar]
  have hagg : (isAgg 49).run Try.prog w = .ok true w := by kernel_rfl
  have hsz : (sizeOf 49).run Try.prog w = .ok 13 w := by kernel_rfl
  rw [hr] at hl
  simp only [hagg, hsz, Result.andThen_ok, Sem.run_bind, if_true]
  rw [hl]
  exact hk

/-- A boxed step is loaded, whole. -/
theorem wpList_loadBox49 (hgd : Region.wanted o (yielded ops a.tmps) = true) (x : Operand) (ho : o.op = .load 49 x) (g : Nat) (hx : a.eval x = .pointer (some ⟨g, 0, none⟩)) (cs : Array Value) (hs : cs.size = 13)
    (hg : w.heap[g]? = some (.cells cs 49 (0, 0))) (h : wpList Try.prog ops Q rest (a.put o.dst (.agg cs)) w) : wpList Try.prog ops Q (o :: rest) a w := by
  refine BigFrame.wpList_want hgd fun K hK => ?_
  exact wp_load_row 49 x ho g hx 49 cs (0, 0) _ hg Try.underlying49 rfl (by rw [hs]; kernel_rfl) (hK _ _ h)

/-- A step is stored into a variable of the call's own. -/
theorem wpList_store49 (hgd : o.guard = none) (hd : o.dst = none) (x y : Operand) (ho : o.op = .store 49 x y) (g : Nat) (cs : Array Value) (hx : a.eval x = .pointer (some ⟨g, 0, none⟩)) (hy : a.eval y = .agg cs)
    (hs : cs.size = 13) (h1 : cs.all (·.oneCell') = true) (old : Array Value) (hold : old.size = 13) (hg : w.heap[g]? = some (.cells old 49 (0, 0)))
    (h : ∀ w', w'.heap[g]? = some (.cells cs 49 (0, 0)) → Below g w w' → w'.heap.size = w.heap.size → wpList Try.prog ops Q rest a w') : wpList Try.prog ops Q (o :: rest) a w := by
  refine wpList_store_row hgd 49 x y ho g cs hx hy 49 old hg (by rw [hs]; kernel_rfl) (by rw [hold, hs]) h1 ?_
  rw [hd]
  exact h _ (setRow_heap w g old cs 49 (0, 0) hg) ⟨rfl, rfl, rfl, by simp [World.setRow], fun k hk => setRow_block (by omega)⟩ (by simp [World.setRow])
end

theorem all_one {w : World} {B : Nat} {s : Option Step} {r : List Value} (h : StepRow w B s r) : r.toArray.all (·.oneCell') = true := by
  rw [List.all_toArray, List.all_eq_true]
  exact h.one

theorem StepRow.keptBel {w w' : World} {B : Nat} {s : Option Step} {r : List Value} (h : StepRow w B s r) (hb : Below w.heap.size w w') : StepRow w' B s r := h.kept fun g c _ hc => hb.block g (lt_of_block hc)

theorem enters31 : Enters 31 := fun args w => by kernel_rfl

set_option maxRecDepth 100000 in
set_option maxHeartbeats 2000000 in
theorem equalFunc_any (ss1 ss2 : List (Option Step)) (v1 v2 : Value) (w : World) (hs : ss1.length ≤ 100000) (h1 : StepsAt w v1 ss1) (h2 : StepsAt w v2 ss2) : Calls Try.prog 29 #[v1, v2, .func (.func 31) #[] #[]] w (YesIf (ss1 = ss2 ∧ ∀ s ∈ ss1, s ≠ none) w) := by
  obtain ⟨ad1, cap1, rfl, hj1⟩ := id h1
  obtain ⟨ad2, cap2, rfl, hj2⟩ := id h2
  clear hj1 hj2
  have H1 := hid h1
  have H2 := hid h2
  clear h1 h2
  have hEn : ∀ (args : Array Value) (w : World), (callFunc 31 args).run Try.prog w = .ok (.enter 31 args) w := enters31
  by_cases hl : ss1.length = ss2.length
  · have t1 : ((ss1.length : Int) != (ss2.length : Int)) = false := by rw [bne, Bool.not_eq_false', beq_iff_eq]; omega
    have HL := hid hl
    clear hl
    go_enter Try.func29, Try.ntmps29
    go_wp2_with (fail)
    go_loopw [17] (fun k wr => ∃ j : Nat, k = .int .i64 (j : Int) ∧ j ≤ ss1.length ∧ Hid (Below w.heap.size w wr)) (fun k _ => ss1.length - (intOf k).toNat)
    case atStart => exact ⟨0, rfl, Nat.zero_le _, hid (Below.refl _ _)⟩
    case round =>
      obtain ⟨j, rfl, hj, BW⟩ := hrel
      by_cases hlt : j < ss1.length
      · have hlt2 : j < ss2.length := by have := HL.out; omega
        obtain ⟨ad, cap, e1, f1⟩ := H1.out.kept BW.out
        obtain ⟨g1, r1, ea, s1, k1⟩ := f1 j hlt
        injection e1 with e1 e2 e3
        subst e1
        subst ea
        clear e2 e3 f1
        obtain ⟨ad', cap', e1, f1⟩ := H2.out.kept BW.out
        obtain ⟨g2, r2, ea, s2, k2⟩ := f1 j hlt2
        injection e1 with e1 e2 e3
        subst e1
        subst ea
        clear e2 e3 f1
        have S1 := hid s1
        have S2 := hid s2
        have K1 := hid k1
        have K2 := hid k2
        clear s1 s2 k1 k2
        go_wp2_with (first
          | (refine wpList_load49 rfl (.tmp 20) rfl g1 (j * 13) rfl r1 S1.out.lenEq K1.out ?_)
          | (refine wpList_store49 rfl rfl (.tmp 8) (.tmp 21) rfl wr.heap.size r1.toArray rfl rfl (by simp [S1.out.lenEq]) (all_one S1.out) _ rfl (heap_alloc_new wr _) ?_; intro w2 hg2 hb2 hz2; have G2 := hid hg2; have B2 : Hid (Below wr.heap.size wr w2) := hid (((Below.refl _ wr).alloc (Nat.le_refl _) _).trans hb2); have Z2 : Hid (w2.heap.size = wr.heap.size + 1) := hid (by rw [hz2]; simp); clear hg2 hb2 hz2)
          | (refine wpList_load49 rfl (.tmp 24) rfl g2 (j * 13) rfl r2 S2.out.lenEq (fun i u hu => (B2.out.cell (World.block_lt_of_cell? wr _ (K2.out i u hu))).trans (K2.out i u hu)) ?_)
          | (refine wpList_store49 rfl rfl (.tmp 9) (.tmp 25) rfl w2.heap.size r2.toArray rfl rfl (by simp [S2.out.lenEq]) (all_one S2.out) _ rfl (heap_alloc_new w2 _) ?_; intro w3 hg3 hb3 hz3; have G3 := hid hg3; have B3 : Hid (Below w2.heap.size w2 w3) := hid (((Below.refl _ w2).alloc (Nat.le_refl _) _).trans hb3); clear hg3 hb3 hz3)
          | (refine wpList_loadBox49 rfl (.tmp 8) rfl wr.heap.size rfl r1.toArray (by simp [S1.out.lenEq]) ((B3.out.block _ (by have := Z2.out; omega)).trans G2.out) ?_)
          | (refine wpList_loadBox49 rfl (.tmp 9) rfl w2.heap.size rfl r2.toArray (by simp [S2.out.lenEq]) G3.out ?_)
          | (refine (sameStep_any ((S1.out.keptBel B2.out).keptBel B3.out) ((S2.out.keptBel B2.out).keptBel B3.out)).mono ?_; rintro e w4 ⟨r, rfl, hr, hb4⟩; have HR := hid hr; have B4 := hid hb4; clear hr hb4; cases r))
        · go_ret
          exact ⟨_, rfl, fun h => absurd (HR.out ⟨List.getElem_of_eq h.1 hlt, h.2 _ (List.getElem_mem hlt)⟩) (by simp), BW.out.trans (((B2.out.trans (B3.out.mono B2.out.size)).trans (B4.out.mono (Nat.le_trans B2.out.size B3.out.size))).mono BW.out.size)⟩
        · go_roundw
          case rel => exact ⟨j + 1, by simp, by omega, hid (BW.out.trans (((B2.out.trans (B3.out.mono B2.out.size)).trans (B4.out.mono (Nat.le_trans B2.out.size B3.out.size))).mono BW.out.size))⟩
          case measure => simp only [intOf]; omega
      · go_wp2_with (fail)
        go_ret
        exact ⟨_, rfl, fun _ => rfl, BW.out⟩
  · have t1 : ((ss1.length : Int) != (ss2.length : Int)) = true := by rw [bne, Bool.not_eq_true', beq_eq_false_iff_ne]; omega
    have HL := hid hl
    clear hl
    go_enter Try.func29, Try.ntmps29
    go_wp2_with (fail)
    go_ret
    exact ⟨_, rfl, fun h => absurd (congrArg List.length h.1) HL.out, Below.refl _ _⟩

set_option maxRecDepth 100000 in
theorem samePlace_any (p q : List Step) (v1 v2 : Value) (w : World) (hp : p.length ≤ 100000) (h1 : StepsAt w v1 (p.map some)) (h2 : StepsAt w v2 (q.map some)) : Calls Try.prog 11 #[v1, v2] w (YesIf (p = q) w) := by
  have U1 := hid (unrooted_any p v1 w h1)
  have U2 := hid (unrooted_any q v2 w h2)
  have EQ := hid (equalFunc_any _ _ v1 v2 w (by simpa using hp) h1 h2)
  clear h1 h2
  go_enter Try.func11, Try.ntmps11
  go_wp2_with (first
    | (go_at_call_of 30 v1; refine U1.out.mono ?_; rintro e w2 ⟨rfl, hw⟩; rw [hw]; clear hw w2)
    | (go_at_call_of 30 v2; refine U2.out.mono ?_; rintro e w2 ⟨rfl, hw⟩; rw [hw]; clear hw w2)
    | (go_at_call 29; refine EQ.out.mono ?_; rintro e w2 ⟨r, rfl, hr, hb⟩; have HR := hid hr; have B2 := hid hb; clear hr hb))
  go_ret
  exact ⟨_, rfl, fun h => HR.out ⟨by rw [h], by simp⟩, B2.out⟩
end Go.Proofs.Ytclnpjelgdoloaa
