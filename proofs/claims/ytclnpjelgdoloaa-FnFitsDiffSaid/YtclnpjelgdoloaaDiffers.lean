/- slices.ContainsFunc; laws.integer, object, child, differs. -/
import Derived.Test.YtclnpjelgdoloaaContains
namespace Go.Proofs.Ytclnpjelgdoloaa
open Go.RowKit Go.Maps
set_option linter.unusedVariables false

set_option maxRecDepth 100000 in
theorem containsPlace_any {w : World} {B xb kb gx nx cx k : Nat} {vq v : Value} {q : List Step} {us : List Value} {ps : List (List Step)} (h : Caught w xb kb gx nx cx k vq q) (hown : w.ownsRow B 33 1 v us.length us) (hat : PlacesAt w B us ps) (hps : ∀ p ∈ ps, p.length ≤ 100000) (hul : us.length ≤ 100000) (hq : q ∈ ps) :
    Calls Try.prog 9 #[v, .func (.func 10) #[] #[.pointer (some ⟨xb, 0, none⟩), .pointer (some ⟨kb, 0, none⟩)]] w (BoolPost true w) := by
  have H := hid (indexPlace_any h hown hat hps hul)
  have HQ := hid hq
  clear h hown hat hps hul hq
  go_enter Try.func9, Try.ntmps9
  go_wp2_with (go_at_call 28; refine H.out.mono ?_; rintro e w2 ⟨r, rfl, hr, hb2⟩; have HB := hid hb2; have h0 : 0 ≤ r := hr HQ.out; clear hb2 hr)
  go_ret
  exact ⟨rfl, HB.out⟩

def intV (n : Int) : V := .mk 3 n 0 ByteArray.empty [] []
def objV (k : ByteArray) (x : V) : V := .mk 8 0 0 ByteArray.empty [x] [k]

def RepPost (t : V) (w : World) (e : Ending) (w' : World) : Prop := ∃ v, e = .returned v ∧ Rep w' v t ∧ Below w.heap.size w w'

theorem rep_int (w : World) (n : Int) (hn : isI64 n) : Rep w (.agg #[.int .i64 3, .int .i64 n, .float .f64 0, .string ByteArray.empty, .slice none 0 0, .slice none 0 0]) (intV n) :=
  Rep.mk 3 n 0 ByteArray.empty [] [] none none 0 0 (fun _ _ => undef) (by unfold isI64; omega) hn (by simp) (Nat.le_refl _) (by omega) (Nat.le_refl _) (by omega) (fun j hj => absurd hj (by simp)) (fun j hj => absurd hj (by simp)) (fun j hj => absurd hj (by simp))

set_option maxRecDepth 100000 in
theorem integer_any (n : Int) (hn : isI64 n) (w : World) : Calls Try.prog 19 #[.int .i64 n] w (RepPost (intV n) w) := by
  have HN := hid hn
  clear hn
  go_enter Try.func19, Try.ntmps19
  go_wp2_with (refine wpList_store26 rfl rfl (.tmp 2) (.tmp 4) rfl w.heap.size #[.int .i64 3, .int .i64 n, .float .f64 0, .string ByteArray.empty, .slice none 0 0, .slice none 0 0] rfl rfl rfl (by simp [Value.oneCell']) _ rfl (heap_alloc_new w _) ?_; intro w2 hg2 hb2 hz2; have G2 := hid hg2; have B2 : Hid (Below w.heap.size w w2) := hid (((Below.refl _ w).alloc (Nat.le_refl _) _).trans hb2); clear hg2 hb2 hz2)
  have c0 := (cell_of_row _ w.heap.size 0 _ 26 (0, 0) G2.out).trans rfl
  have c1 := (cell_of_row _ w.heap.size 1 _ 26 (0, 0) G2.out).trans rfl
  have c2 := (cell_of_row _ w.heap.size 2 _ 26 (0, 0) G2.out).trans rfl
  have c3 := (cell_of_row _ w.heap.size 3 _ 26 (0, 0) G2.out).trans rfl
  have c4 := (cell_of_row _ w.heap.size 4 _ 26 (0, 0) G2.out).trans rfl
  have c5 := (cell_of_row _ w.heap.size 5 _ 26 (0, 0) G2.out).trans rfl
  refine bodyPost_ret (v := .agg #[.int .i64 3, .int .i64 n, .float .f64 0, .string ByteArray.empty, .slice none 0 0, .slice none 0 0]) (by simp [results, Try.results19, go_sem, c0, c1, c2, c3, c4, c5]) rfl ⟨_, rfl, rep_int _ n HN.out, B2.out⟩

set_option maxRecDepth 100000 in
theorem child_any (s : ByteArray) (w : World) : Calls Try.prog 20 #[.string s] w (fun e w' => e = .returned (.agg #[.int .i64 3, .string s, .slice none 0 0, .slice none 0 0, .int .i64 0, .int .i64 0, .int .i64 0, .float .f64 0, .string ByteArray.empty, .slice none 0 0, .slice none 0 0, .slice none 0 0, .slice none 0 0]) ∧ Below w.heap.size w w') := by
  go_enter Try.func20, Try.ntmps20
  go_wp2_with (refine wpList_store49 rfl rfl (.tmp 2) (.tmp 4) rfl w.heap.size (fragRow 3 s (.slice none 0 0)).toArray rfl rfl rfl (by simp [fragRow, Value.oneCell']) _ rfl (heap_alloc_new w _) ?_; intro w2 hg2 hb2 hz2; have G2 := hid hg2; have B2 : Hid (Below w.heap.size w w2) := hid (((Below.refl _ w).alloc (Nat.le_refl _) _).trans hb2); clear hg2 hb2 hz2)
  have hc := fun i => cell_of_row _ w.heap.size i _ 49 (0, 0) G2.out
  have c0 := (hc 0).trans rfl
  have c1 := (hc 1).trans rfl
  have c2 := (hc 2).trans rfl
  have c3 := (hc 3).trans rfl
  have c4 := (hc 4).trans rfl
  have c5 := (hc 5).trans rfl
  have c6 := (hc 6).trans rfl
  have c7 := (hc 7).trans rfl
  have c8 := (hc 8).trans rfl
  have c9 := (hc 9).trans rfl
  have c10 := (hc 10).trans rfl
  have c11 := (hc 11).trans rfl
  have c12 := (hc 12).trans rfl
  clear hc
  refine bodyPost_ret (v := .agg (fragRow 3 s (.slice none 0 0)).toArray) (by simp [results, Try.results20, go_sem, c0, c1, c2, c3, c4, c5, c6, c7, c8, c9, c10, c11, c12, fragRow]) rfl ⟨rfl, B2.out⟩

theorem rep_obj {w : World} {vx : Value} {t : V} {k : ByteArray} {b kb : Nat} {X : Array Value} (hX : vx = .agg X) (h : Rep w vx t) (hk : k.size ≤ 140737488351232) (hb : w.heap[b]? = some (.cells X 26 (0, 0))) (hkb : w.heap[kb]? = some (.cells #[.string k] 9 (0, 0))) :
    Rep w (.agg #[.int .i64 8, .int .i64 0, .float .f64 0, .string ByteArray.empty, .slice (some ⟨b, 0, none⟩) 1 1, .slice (some ⟨kb, 0, none⟩) 1 1]) (objV k t) := by
  subst hX
  obtain ⟨x0, x1, x2, x3, x4, x5, e⟩ := h.six
  injection e with e
  subst e
  refine Rep.mk 8 0 0 ByteArray.empty [t] [k] _ _ 1 1 (fun _ i => #[x0, x1, x2, x3, x4, x5].getD i undef) (by unfold isI64; omega) (by unfold isI64; omega) (by simp) (Nat.le_refl _) (by omega) (Nat.le_refl _) (by omega) ?_ ?_ ?_
  · intro j hj
    have : j = 0 := by simpa using hj
    subst this
    refine ⟨b, 0, rfl, fun i hi => ?_⟩
    simp only [Nat.zero_mul, Nat.zero_add]
    rw [cell_of_row _ b i _ 26 (0, 0) hb]
    match i, hi with
    | 0, _ => rfl
    | 1, _ => rfl
    | 2, _ => rfl
    | 3, _ => rfl
    | 4, _ => rfl
    | 5, _ => rfl
  · intro j hj
    have : j = 0 := by simpa using hj
    subst this
    exact h
  · intro j hj
    have : j = 0 := by simpa using hj
    subst this
    exact ⟨hk, kb, 0, rfl, (cell_of_row _ kb 0 _ 9 (0, 0) hkb).trans rfl⟩

section
variable {ops : Array Oper} {rest : List Oper} {o : Oper} {a : Act} {w : World} {Q : Exit → Act → World → Prop}
/-- A value of package impl is stored: no other block turns. -/
theorem wpList_store26at (hgd : o.guard = none) (hd : o.dst = none) (x y : Operand) (ho : o.op = .store 26 x y) (g : Nat) (cs : Array Value) (hx : a.eval x = .pointer (some ⟨g, 0, none⟩)) (hy : a.eval y = .agg cs)
    (hs : cs.size = 6) (h1 : cs.all (·.oneCell') = true) (old : Array Value) (hold : old.size = 6) (hg : w.heap[g]? = some (.cells old 26 (0, 0)))
    (h : ∀ w', w'.heap[g]? = some (.cells cs 26 (0, 0)) → (∀ k, k ≠ g → w'.heap[k]? = w.heap[k]?) → Below g w w' → w'.heap.size = w.heap.size → wpList Try.prog ops Q rest a w') : wpList Try.prog ops Q (o :: rest) a w := by
  refine wpList_store_row hgd 26 x y ho g cs hx hy 26 old hg (by rw [hs]; kernel_rfl) (by rw [hold, hs]) h1 ?_
  rw [hd]
  exact h _ (setRow_heap w g old cs 26 (0, 0) hg) (fun k hk => setRow_block hk) ⟨rfl, rfl, rfl, by simp [World.setRow], fun k hk => setRow_block (by omega)⟩ (by simp [World.setRow])
end

theorem four_blocks (w : World) (A B C D : Obj) : ((((w.alloc A).alloc B).alloc C).alloc D).heap[w.heap.size + 1]? = some B ∧ ((((w.alloc A).alloc B).alloc C).alloc D).heap[w.heap.size + 1 + 1]? = some C ∧ ((((w.alloc A).alloc B).alloc C).alloc D).heap[w.heap.size + 1 + 1 + 1]? = some D := by
  have hB := heap_alloc_new (w.alloc A) B
  have hC := heap_alloc_new ((w.alloc A).alloc B) C
  have hD := heap_alloc_new (((w.alloc A).alloc B).alloc C) D
  simp only [World.size_alloc] at hB hC hD
  refine ⟨?_, ?_, ?_⟩
  · rw [Below.heap_alloc _ _ _ (by simp), Below.heap_alloc _ _ _ (by simp)]
    exact hB
  · rw [Below.heap_alloc _ _ _ (by simp)]
    exact hC
  · exact hD

theorem Rep.one6 {w : World} {x0 x1 x2 x3 x4 x5 : Value} {t : V} (h : Rep w (.agg #[x0, x1, x2, x3, x4, x5]) t) : #[x0, x1, x2, x3, x4, x5].all (·.oneCell') = true := h.cells.2

set_option maxRecDepth 100000 in
set_option maxHeartbeats 1000000 in
theorem object_any {w : World} {vx : Value} {t : V} (k : ByteArray) (hk : k.size ≤ 140737488351232) (h : Rep w vx t) : Calls Try.prog 18 #[.string k, vx] w (RepPost (objV k t) w) := by
  obtain ⟨x0, x1, x2, x3, x4, x5, rfl⟩ := h.six
  have H := hid h
  have HK := hid hk
  have F := hid (four_blocks w (.cells #[x0, x1, x2, x3, x4, x5] 26) (.cells #[.int .i64 0, .int .i64 0, .float .f64 0, .string ByteArray.empty, .slice none 0 0, .slice none 0 0] 26) (.cells #[.string k] 9) (.cells #[x0, x1, x2, x3, x4, x5] 26))
  have BE : Hid (Below w.heap.size w ((((w.alloc (.cells #[x0, x1, x2, x3, x4, x5] 26)).alloc (.cells #[.int .i64 0, .int .i64 0, .float .f64 0, .string ByteArray.empty, .slice none 0 0, .slice none 0 0] 26)).alloc (.cells #[.string k] 9)).alloc (.cells #[x0, x1, x2, x3, x4, x5] 26))) := hid (((((Below.refl _ w).alloc (Nat.le_refl _) _).alloc (by simp) _).alloc (by simp; omega) _).alloc (by simp; omega) _)
  have Z := hid (Two.new w #[x0, x1, x2, x3, x4, x5] #[.int .i64 0, .int .i64 0, .float .f64 0, .string ByteArray.empty, .slice none 0 0, .slice none 0 0])
  have Z1 : Hid ((((w.alloc (.cells #[x0, x1, x2, x3, x4, x5] 26)).alloc (.cells #[.int .i64 0, .int .i64 0, .float .f64 0, .string ByteArray.empty, .slice none 0 0, .slice none 0 0] 26)).alloc (.cells #[.string k] 9)).heap[w.heap.size]? = some (.cells #[x0, x1, x2, x3, x4, x5] 26 (0, 0))) := hid (by rw [Below.heap_alloc _ _ _ (by simp; omega)]; exact Z.out.1)
  clear h hk
  go_enter Try.func18, Try.ntmps18
  go_wp2_with (first
    | (refine wpList_loadBox rfl (.tmp 3) rfl w.heap.size rfl #[x0, x1, x2, x3, x4, x5] rfl Z1.out ?_)
    | (refine wpList_store26at rfl rfl (.tmp 4) (.tmp 9) rfl (w.heap.size + 1) #[.int .i64 8, .int .i64 0, .float .f64 0, .string ByteArray.empty, .slice (some ⟨w.heap.size + 1 + 1 + 1, 0, none⟩) 1 1, .slice (some ⟨w.heap.size + 1 + 1, 0, none⟩) 1 1] rfl rfl rfl (by simp [Value.oneCell']) #[.int .i64 0, .int .i64 0, .float .f64 0, .string ByteArray.empty, .slice none 0 0, .slice none 0 0] rfl F.out.1 ?_; intro w2 hg2 ho2 hb2 hz2; have G2 := hid hg2; have O2 := hid ho2; have B2 := hid hb2; clear hg2 ho2 hb2 hz2))
  have K2 := hid ((O2.out (w.heap.size + 1 + 1) (by omega)).trans F.out.2.1)
  have X2 := hid ((O2.out (w.heap.size + 1 + 1 + 1) (by omega)).trans F.out.2.2)
  have BW : Hid (Below w.heap.size w w2) := hid (BE.out.trans (B2.out.mono (by omega)))
  have hc := fun i => cell_of_row _ (w.heap.size + 1) i _ 26 (0, 0) G2.out
  have c0 := (hc 0).trans rfl
  have c1 := (hc 1).trans rfl
  have c2 := (hc 2).trans rfl
  have c3 := (hc 3).trans rfl
  have c4 := (hc 4).trans rfl
  have c5 := (hc 5).trans rfl
  clear hc
  refine bodyPost_ret (v := .agg #[.int .i64 8, .int .i64 0, .float .f64 0, .string ByteArray.empty, .slice (some ⟨w.heap.size + 1 + 1 + 1, 0, none⟩) 1 1, .slice (some ⟨w.heap.size + 1 + 1, 0, none⟩) 1 1]) (by simp [results, Try.results18, go_sem, c0, c1, c2, c3, c4, c5]) rfl ⟨_, rfl, rep_obj rfl (H.out.kept BW.out) HK.out X2.out K2.out, BW.out⟩

def keyA : ByteArray := { data := #[97] }

theorem nodup_one (k : ByteArray) : [k].Nodup := by simp

theorem fine_objA (n : Int) : Fine (objV keyA (intV n)) := by
  refine ⟨?_, ?_, ?_, ?_, ?_⟩
  · simp [objV, intV, V.wt, V.wtl, ksum, keyA, ByteArray.size]
  · simp [objV, intV, V.cl, V.cll]
  · simp [objV, intV, V.wh, V.whl]
  · simp [objV, intV, V.has, V.hasl]
  · simp [objV, intV, V.has, V.hasl]

theorem df_objA : Df 150 (objV keyA (intV 1)) (objV keyA (intV 2)) = [[.key keyA]] := by
  have hk : bothKeys (objV keyA (intV 1)) (objV keyA (intV 2)) = [keyA] := by
    unfold bothKeys
    simp [objV, V.keys]
  have l1 : (objV keyA (intV 1)).look keyA = intV 1 := by simp [V.look, objV, V.keys, V.l, lookIn]
  have l2 : (objV keyA (intV 2)).look keyA = intV 2 := by simp [V.look, objV, V.keys, V.l, lookIn]
  have e7 : ¬ ((objV keyA (intV 1)).k = 7 ∧ (objV keyA (intV 2)).k = 7) := by simp [objV, V.k]
  have e8 : (objV keyA (intV 1)).k = 8 ∧ (objV keyA (intV 2)).k = 8 := by simp [objV, V.k]
  rw [show (150 : Nat) = 149 + 1 from rfl, Df, if_neg e7, if_pos e8, hk]
  simp only [List.flatMap_cons, List.flatMap_nil, List.append_nil, l1, l2]
  rw [Df_scalar _ _ _ (by simp [intV, V.k]) (by simp [intV, V.k])]
  simp [Ds, intV, V.k, V.n]

theorem perm_one {α : Type} {l : List α} {x : α} (h : l.Perm [x]) : l = [x] := List.perm_singleton.1 h

theorem fragSlice_steps {w : World} {b : Nat} (s : ByteArray) (hb : w.heap[b]? = some (.cells (fragRow 3 s (.slice none 0 0)).toArray 49 (0, 0))) : StepsAt w (.slice (some ⟨b, 0, none⟩) 1 1) ([Step.key s].map some) := by
  refine ⟨_, _, rfl, fun j hj => ⟨b, fragRow 3 s (.slice none 0 0), rfl, ?_, ?_⟩⟩
  · have : j = 0 := by simpa using hj
    subst this
    exact .key s
  · have : j = 0 := by simpa using hj
    subst this
    intro i u hu
    simp only [Nat.zero_mul, Nat.zero_add]
    rw [cell_of_row _ b i _ 49 (0, 0) hb]
    simpa using hu

theorem one_place {w : World} {B : Nat} {out : Value} {us : List Value} {p : List Step} (hown : w.ownsRow B 33 1 out us.length us) (hat : PlacesAt w B us [p]) : ∃ u g cap, us = [u] ∧ out = .slice (some ⟨g, 0, none⟩) 1 cap ∧ w.cell? ⟨g, 0, none⟩ = some u ∧ PlaceAt w B u p := by
  cases hat with
  | cons u _ us _ h hs =>
    cases hs
    rcases id hown.2 with ⟨_, h0⟩ | ⟨g, cap, cur, hv, _⟩
    · simp at h0
    · subst hv
      exact ⟨u, g, cap, rfl, rfl, (hown.cellAt 0 (by simp)).trans rfl, h⟩

set_option maxRecDepth 100000 in
set_option maxHeartbeats 2000000 in
theorem differs_any (w : World) : Calls Try.prog 7 #[] w (BoolPost true w) := by
  go_enter Try.func7, Try.ntmps7
  go_wp2_with (first
    | (go_at_call_of 19 (Value.int .i64 1); refine (integer_any 1 (by unfold isI64; omega) _).mono ?_; rintro e w1 ⟨v1, rfl, hr, hb⟩; have R1 := hid hr; have B1 := hid hb; clear hr hb)
    | (go_at_call_of 18 v1; refine (object_any _ (by decide) R1.out).mono ?_; rintro e w2 ⟨v2, rfl, hr, hb⟩; have R2 := hid hr; have B2 := hid hb; clear hr hb)
    | (go_at_call_of 19 (Value.int .i64 2); refine (integer_any 2 (by unfold isI64; omega) _).mono ?_; rintro e w3 ⟨v3, rfl, hr, hb⟩; have R3 := hid hr; have B3 := hid hb; clear hr hb)
    | (go_at_call_of 18 v3; refine (object_any _ (by decide) R3.out).mono ?_; rintro e w4 ⟨v4, rfl, hr, hb⟩; have R4 := hid hr; have B4 := hid hb; clear hr hb))
  go_wp2_with (go_at_call 8; refine (implDiff_any (objV keyA (intV 1)) (objV keyA (intV 2)) v2 v4 w4 ((R2.out.kept B3.out).kept B4.out) R4.out (fine_objA 1) (fine_objA 2)).mono ?_; rintro e w5 ⟨out, us, ps, rfl, hperm, hown, hat, hb⟩; rw [df_objA] at hperm; obtain rfl := perm_one hperm; obtain ⟨u, g, cap, rfl, rfl, hcell, hplace⟩ := one_place hown hat; have B5 := hid hb; have PU := hid hplace; clear hperm hown hat hb hplace)
  have cu : w5.drew.cell? ⟨g, 0, none⟩ = some u := hcell
  have CU := hid cu
  clear hcell cu
  have BW : Hid (Below w.heap.size w w5.drew) := hid (((((B1.out.trans (B2.out.mono B1.out.size)).trans (B3.out.mono (by have := B1.out.size; have := B2.out.size; omega))).trans (B4.out.mono (by have := B1.out.size; have := B2.out.size; have := B3.out.size; omega))).trans (B5.out.mono (by have := B1.out.size; have := B2.out.size; have := B3.out.size; have := B4.out.size; omega))).drew)
  have S5 : Hid (StepsAt w5.drew u ([Step.key keyA].map some)) := hid (by have h := PU.out.steps; have e : stepsOf [Step.key keyA] = [Step.key keyA].map some := by simp [stepsOf]
                                                                          rw [e] at h; exact h.kept (Below.refl _ _).drew)
  go_region_held3 (fun w' => w'.cell? ⟨g, 0, none⟩ = some u)
    (first | exact CU.out | exact KU.out | exact KV.out | exact cell_move KU.out (Below.heap_alloc _ _ _ (World.block_lt_of_cell? _ _ KU.out)))
    (first
      | (go_at_call 20; refine (child_any _ _).mono ?_; rintro e w6 ⟨rfl, hb⟩; have B6 := hid hb; have KU : Hid (w6.cell? ⟨g, 0, none⟩ = some u) := hid ((hb.cell (World.block_lt_of_cell? _ _ CU.out)).trans CU.out); clear hb)
      | (go_at_call 11; refine (samePlace_any [.key keyA] [.key keyA] u _ _ (by simp) ((S5.out.kept B6.out).kept ((Below.refl _ _).alloc (Nat.le_refl _) _)) (fragSlice_steps keyA (heap_alloc_new w6 _))).mono ?_; rintro e w7 ⟨r, rfl, hr, hb⟩; obtain rfl := hr rfl; have B7 : Hid (Below w6.heap.size w6 w7) := hid (((Below.refl _ w6).alloc (Nat.le_refl _) _).trans (hb.mono (by simp))); have KV : Hid (w7.cell? ⟨g, 0, none⟩ = some u) := hid ((B7.out.cell (World.block_lt_of_cell? _ _ KU.out)).trans KU.out); clear hr hb))
  all_goals go_wp2_with (fail)
  all_goals go_ret
  all_goals exact ⟨rfl, (BW.out.trans (B6.out.mono BW.out.size)).trans (B7.out.mono (Nat.le_trans BW.out.size B6.out.size))⟩
end Go.Proofs.Ytclnpjelgdoloaa
