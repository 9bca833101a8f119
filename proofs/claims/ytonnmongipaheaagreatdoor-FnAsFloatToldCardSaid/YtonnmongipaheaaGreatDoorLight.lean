/- laws.light, laws.plainData, laws.zzFits1: what their yes says of a tree. Trees of plain data, as the package's functions take them. impl.right and impl.big at trees of plain data: yes, and no. -/
import Derived.Test.YtonnmongipaheaaGreatDoorWhole
namespace Go.Proofs.YtonnmongipaheaaGreatDoor
open Go.RowKit
set_option linter.unusedVariables false

section
variable {ops : Array Oper} {rest : List Oper} {o : Oper} {a : Act} {w : World} {Q : Exit → Act → World → Prop}
/-- A boxed value is loaded, whole. -/
theorem wpList_loadBox (hgd : Region.wanted o (yielded ops a.tmps) = true) (x : Operand) (ho : o.op = .load 26 x) (g : Nat) (hx : a.eval x = .pointer (some ⟨g, 0, none⟩)) (cs : Array Value) (hs : cs.size = 6)
    (hg : w.heap[g]? = some (.cells cs 26 (0, 0))) (h : wpList Tryz.prog ops Q rest (a.put o.dst (.agg cs)) w) : wpList Tryz.prog ops Q (o :: rest) a w := by
  refine BigFrame.wpList_want hgd fun K hK => ?_
  exact wp_load_row 26 x ho g hx 26 cs (0, 0) _ hg Tryz.underlying26 rfl (by rw [hs]; kernel_rfl) (hK _ _ h)
end

/-- A tree of plain data, of at most 300 parts and bytes. -/
structure Lite (t : V) : Prop where
  wt : t.wt ≤ 300
  cl : t.cl
  wh : t.wh
  big : t.has 6 = false

def Light (t : V) : Prop := Lite t

theorem box_block {w w1 : World} {X : Array Value} (hbel : Below (w.heap.size + 1) (w.alloc (.cells X 26)) w1) : w1.heap[w.heap.size]? = some (.cells X 26) := by
  rw [hbel.block _ (by omega)]
  exact heap_alloc_new w _

set_option maxRecDepth 100000 in
set_option maxHeartbeats 1000000 in
theorem light_any (t : V) (v : Value) (w : World) (hrep : Rep w v t) : Calls Tryz.prog 13 #[v, .int .i64 300] w (SaysPost (Light t) w) := by
  obtain ⟨la, ka, lc, kc, cs, ho⟩ := hrep.open_
  obtain rfl := ho.eq
  obtain ⟨X, hX⟩ : ∃ X, X = #[Value.int .i64 t.k, .int .i64 t.n, .float .f64 t.f, .string t.s, .slice la t.l.length lc, .slice ka t.keys.length kc] := ⟨_, rfl⟩
  have hXs : Hid (X.size = 6) := hid (by rw [hX]; rfl)
  rw [← hX] at hrep ⊢
  have HR := hid hrep
  clear hrep ho hX
  have R0 : Hid (Rep (w.alloc (.cells X 26)) (.agg X) t) := hid (HR.out.kept ((Below.refl _ w).alloc (Nat.le_refl _) _))
  have G0 : Hid ((w.alloc (.cells X 26)).heap[w.heap.size]? = some (.cells X 26)) := hid (heap_alloc_new w _)
  have B0 : Hid (Below (w.heap.size + 1) (w.alloc (.cells X 26)) (w.alloc (.cells X 26))) := hid (Below.refl _ _)
  go_enter Tryz.func13, Tryz.ntmps13
  go_wp2_with (first
    | (refine wpList_loadBox rfl (.tmp 2) rfl w.heap.size rfl X hXs.out (by first | exact G0.out | exact box_block B1.out | exact box_block B2.out | exact box_block B3.out) ?_)
    | (go_at_call 23; refine (weight_any _ t _ 300 _ (Nat.le_refl _) R0.out (by omega) (by omega)).mono ?_; rintro e w1 ⟨r, rfl, hr1, hr2, hb⟩; have B1 := hid (box_trans B0.out hb); have R1 := hid (R0.out.kept hb); have H1 := hid hr1; clear hr1 hr2 hb; by_cases hr0 : 0 ≤ r)
    | (go_at_call 15; refine (clean_any _ t _ _ (Nat.le_refl _) R1.out).mono ?_; rintro e w2 ⟨r2, rfl, hr2, hb⟩; have B2 := hid (box_trans B1.out hb); have R2 := hid (R1.out.kept hb); have H2 := hid hr2; clear hr2 hb; cases r2)
    | (go_at_call 24; refine (whole_any _ t _ _ (Nat.le_refl _) R2.out (by have := H1.out hr0; omega)).mono ?_; rintro e w3 ⟨r3, rfl, hr3, hb⟩; have B3 := hid (box_trans B2.out hb); have R3 := hid (R2.out.kept hb); have H3 := hid hr3; clear hr3 hb; cases r3)
    | (go_at_call 25; refine (holds_any 6 _ t _ _ (Nat.le_refl _) R3.out).mono ?_; rintro e w4 ⟨rfl, hb⟩; have B4 := hid (box_trans B3.out hb); clear hb; rcases h6 : t.has 6 with _ | _))
  all_goals go_ret
  · exact ⟨false, rfl, (fun h => by cases h), box_below B2.out⟩
  · exact ⟨false, rfl, (fun h => by cases h), box_below B3.out⟩
  · exact ⟨true, rfl, (fun _ => ⟨by have := H1.out hr0; omega, H2.out rfl, H3.out rfl, h6⟩), box_below B4.out⟩
  · exact ⟨false, rfl, (fun h => by cases h), box_below B4.out⟩
  · exact ⟨false, rfl, (fun h => by cases h), box_below B1.out⟩

set_option maxRecDepth 100000 in
theorem fits2_any {w : World} {ka : Option Addr} {kc : Nat} {keys : List ByteArray} (h : Keys w ka kc keys) : Calls Tryz.prog 12 #[.slice ka keys.length kc] w (SomeBool w) := by
  have s1 := h.le
  have s2 := h.cap
  have H := hid h
  clear h
  by_cases hbig : 2147483647 < keys.length
  · go_enter Tryz.func12, Tryz.ntmps12
    go_wp2_with (fail)
    go_ret
    exact ⟨_, rfl, rfl⟩
  · go_enter Tryz.func12, Tryz.ntmps12
    go_wp2_with (fail)
    go_loop [4, 10] (fun x k => ∃ kk : Nat, k = .int .i64 kk ∧ kk ≤ keys.length) (fun _ k => keys.length - (intOf k).toNat)
    case atStart => exact ⟨0, rfl, by omega⟩
    case round =>
      obtain ⟨kk, rfl, hkk⟩ := hrel
      by_cases hlt : kk < keys.length
      · obtain ⟨hs, b, o, rfl, hc⟩ := H.out.at_ kk hlt
        by_cases hb : 2147483647 < keys[kk].size
        · go_wp2_with (fail)
          go_ret
          exact ⟨_, rfl, rfl⟩
        · go_wp2_with (fail)
          go_round
          case rel => exact ⟨kk + 1, by go_num, by omega⟩
          case measure => simp [intOf]; omega
      · go_wp2_with (fail)
        go_ret
        exact ⟨_, rfl, rfl⟩

def MayBe (w : World) (e : Ending) (w' : World) : Prop := ∃ b : Bool, e = .returned (.bool b) ∧ Below w.heap.size w w'

set_option maxRecDepth 100000 in
theorem fits1_any (t : V) (v : Value) (w : World) (hrep : Rep w v t) : Calls Tryz.prog 4 #[v] w (MayBe w) := by
  obtain ⟨la, ka, lc, kc, cs, ho⟩ := hrep.open_
  obtain rfl := ho.eq
  have HK := hid (ho.kept ((Below.refl _ w).alloc (Nat.le_refl _) (.cells #[Value.int .i64 t.k, .int .i64 t.n, .float .f64 t.f, .string t.s, .slice la t.l.length lc, .slice ka t.keys.length kc] 26))).toKeys
  have s1 := ho.hs
  have s4 := ho.hl
  have s5 := ho.hlc
  have s6 := ho.hkl
  have s7 := ho.hkc
  clear ho hrep
  have hb := (Below.refl w.heap.size w).alloc (Nat.le_refl _) (.cells #[Value.int .i64 t.k, .int .i64 t.n, .float .f64 t.f, .string t.s, .slice la t.l.length lc, .slice ka t.keys.length kc] 26)
  have HB := hid hb
  clear hb
  by_cases h1 : 2147483647 < t.s.size
  · go_enter Tryz.func4, Tryz.ntmps4
    go_wp2_with (fail)
    go_ret
    exact ⟨_, rfl, HB.out⟩
  by_cases h2 : 2147483647 < t.l.length
  · go_enter Tryz.func4, Tryz.ntmps4
    go_wp2_with (fail)
    go_ret
    exact ⟨_, rfl, HB.out⟩
  go_enter Tryz.func4, Tryz.ntmps4
  go_wp2_with (go_at_call 12; refine (fits2_any HK.out).mono ?_; rintro e w' ⟨b, rfl, rfl⟩; cases b)
  all_goals go_ret
  all_goals exact ⟨_, rfl, HB.out⟩
end Go.Proofs.YtonnmongipaheaaGreatDoor

namespace Go.Proofs.YtonnmongipaheaaGreatDoor
open Go.RowKit
set_option linter.unusedVariables false

/-- A tree of plain data: its lists are short. -/
inductive Fine : V → Prop
  | mk (t : V) (hk : t.k = 1 ∨ t.k = 2 ∨ t.k = 3 ∨ t.k = 4 ∨ t.k = 5 ∨ t.k = 7 ∨ t.k = 8) (hb : t.k = 2 → t.n = 0 ∨ t.n = 1) (hf : t.k = 4 → nanB t.f = false ∧ infB t.f = false) (hlen : t.l.length ≤ 300 ∧ t.keys.length ≤ 300)
      (hl : ¬ (t.k = 7 ∨ t.k = 8) → t.l = []) (h8 : t.k = 8 → t.keys.length = t.l.length ∧ t.keys.Nodup) (hr : ∀ x ∈ t.l, Fine x) : Fine t

theorem fine_kind {t : V} (h : Fine t) : t.k = 1 ∨ t.k = 2 ∨ t.k = 3 ∨ t.k = 4 ∨ t.k = 5 ∨ t.k = 7 ∨ t.k = 8 := by cases h; assumption
theorem Fine.bit {t : V} (h : Fine t) : t.k = 2 → t.n = 0 ∨ t.n = 1 := by cases h; assumption
theorem Fine.fin {t : V} (h : Fine t) : t.k = 4 → nanB t.f = false ∧ infB t.f = false := by cases h; assumption
theorem Fine.len {t : V} (h : Fine t) : t.l.length ≤ 300 ∧ t.keys.length ≤ 300 := by cases h; assumption
theorem Fine.bare {t : V} (h : Fine t) : ¬ (t.k = 7 ∨ t.k = 8) → t.l = [] := by cases h; assumption
theorem Fine.obj {t : V} (h : Fine t) : t.k = 8 → t.keys.length = t.l.length ∧ t.keys.Nodup := by cases h; assumption
theorem Fine.mem {t : V} (h : Fine t) : ∀ x ∈ t.l, Fine x := by cases h; assumption
theorem fine_elem {t : V} (h : Fine t) (j : Nat) (hj : j < t.l.length) : Fine t.l[j] := h.mem _ (List.getElem_mem hj)

theorem lite_fine (n : Nat) : ∀ t : V, SizeOf.sizeOf t ≤ n → Lite t → Fine t := by
  induction n with
  | zero => intro t hn; cases t; simp at hn
  | succ n ih =>
    intro t hn h
    have h1 := (V.cl_eq t).1 h.cl
    have h2 := (V.wh_eq t).1 h.wh
    have h3 := h.big
    have hw := h.wt
    have hl := l_le_wt t
    have hk := keys_le_wt t
    rw [V.has_eq, Bool.or_eq_false_iff] at h3
    have e6 : t.k ≠ 6 := by simpa using h3.1
    refine .mk t (by omega) h2.2.1 h2.2.2.2.2 ⟨by omega, by omega⟩ h1.2 h2.2.2.2.1 ?_
    by_cases h78 : t.k = 7 ∨ t.k = 8
    · have hkb : (t.k == 7 || t.k == 8) = true := by rcases h78 with e | e <;> simp [e]
      have h4 := h3.2
      rw [hkb, Bool.true_and] at h4
      have all : ∀ (l : List V), V.cll l → V.whl l → V.hasl 6 l = false → ∀ x ∈ l, x.cl ∧ x.wh ∧ x.has 6 = false := by
        intro l
        induction l with
        | nil => intro _ _ _ x hx; simp at hx
        | cons a l ih =>
          intro c1 c2 c3 x hx
          simp only [V.cll, V.whl, V.hasl, Bool.or_eq_false_iff] at c1 c2 c3
          rcases List.mem_cons.1 hx with rfl | hx
          · exact ⟨c1.1, c2.1, c3.1⟩
          · exact ih c1.2 c2.2 c3.2 x hx
      intro x hx
      obtain ⟨q1, q2, q3⟩ := all t.l (h1.1 h78) (h2.2.2.1 h78) h4 x hx
      have hs := V.l_lt hx
      obtain ⟨j, hj, rfl⟩ := List.getElem_of_mem hx
      exact ih _ (by omega) ⟨by have := wt_elem (t := t) j hj; omega, q1, q2, q3⟩
    · intro x hx
      rw [h1.2 h78] at hx
      simp at hx
end Go.Proofs.YtonnmongipaheaaGreatDoor

namespace Go.Proofs.YtonnmongipaheaaGreatDoor
open Go.RowKit
set_option linter.unusedVariables false

/-- A slice in memory that reads as a list of trees. -/
structure Lst (w : World) (la : Option Addr) (lc : Nat) (l : List V) (cs : Nat → Nat → Value) : Prop where
  le : l.length ≤ lc
  cap : l.length ≤ 140737488351232 ∧ lc ≤ 9223372036854775807
  at_ : ∀ j, j < l.length → ∃ b o, la = some ⟨b, o, none⟩ ∧ ∀ i, i < 6 → w.cell? ⟨b, o + j * 6 + i, none⟩ = some (cs j i)
  rep : ∀ j (hj : j < l.length), Rep w (.agg #[cs j 0, cs j 1, cs j 2, cs j 3, cs j 4, cs j 5]) l[j]

theorem Open.toLst {w : World} {v : Value} {t : V} {la ka : Option Addr} {lc kc : Nat} {cs : Nat → Nat → Value} (h : Open w v t la ka lc kc cs) : Lst w la lc t.l cs := ⟨h.hl, h.hlc, h.hla, h.hr⟩

theorem Lst.kept {w w' : World} {la : Option Addr} {lc : Nat} {l : List V} {cs : Nat → Nat → Value} (h : Lst w la lc l cs) (hb : Below w.heap.size w w') : Lst w' la lc l cs := by
  have keep : ∀ {a : Addr} {u : Value}, w.cell? a = some u → w'.cell? a = some u := fun h => (hb.cell (World.block_lt_of_cell? w _ h)).trans h
  refine ⟨h.le, h.cap, ?_, fun j hj => (h.rep j hj).kept hb⟩
  intro j hj
  obtain ⟨b, o, h1, h2⟩ := h.at_ j hj
  exact ⟨b, o, h1, fun i hi => keep (h2 i hi)⟩

/-- A function of a value that says no of each of a list. -/
def SaysNo (F : Nat) (w : World) (l : List V) (cs : Nat → Nat → Value) : Prop :=
  ∀ j (hj : j < l.length) (w' : World), Below w.heap.size w w' → Calls Tryz.prog F #[.agg #[cs j 0, cs j 1, cs j 2, cs j 3, cs j 4, cs j 5]] w' (BoolPost false w')

/-- A function that is entered when it is called. -/
def Enters (F : Nat) : Prop := ∀ (args : Array Value) (w : World), (callFunc F args).run Tryz.prog w = .ok (.enter F args) w
theorem enters22 : Enters 28 := fun args w => by kernel_rfl
theorem enters39 : Enters 36 := fun args w => by kernel_rfl
theorem enters43 : Enters 40 := fun args w => by kernel_rfl

def MinusOne (w : World) (e : Ending) (w' : World) : Prop := e = .returned (.int .i64 (-1)) ∧ Below w.heap.size w w'

set_option maxRecDepth 100000 in
theorem indexFunc_none {w : World} {la : Option Addr} {lc : Nat} {l : List V} {cs : Nat → Nat → Value} (F : Nat) (hE : Enters F) (h : Lst w la lc l cs) (hF : SaysNo F w l cs) :
    Calls Tryz.prog 45 #[.slice la l.length lc, .func (.func F) #[] #[]] w (MinusOne w) := by
  have s1 := h.le
  have s2 := h.cap
  have H := hid h
  have HF := hid hF
  have hEn : ∀ (args : Array Value) (w : World), (callFunc F args).run Tryz.prog w = .ok (.enter F args) w := hE
  clear h hF hE
  go_enter Tryz.func45, Tryz.ntmps45
  go_wp2_with (fail)
  go_loopw [8] (fun k wr => ∃ jj : Nat, k = .int .i64 jj ∧ jj ≤ l.length ∧ Below w.heap.size w wr) (fun k _ => l.length - (intOf k).toNat)
  case atStart => exact ⟨0, rfl, by omega, Below.refl _ _⟩
  case round =>
    obtain ⟨jj, rfl, hjj, hbel⟩ := hrel
    have BW := hid hbel
    clear hbel
    by_cases hlt : jj < l.length
    · obtain ⟨b, o, rfl, hc⟩ := (H.out.kept BW.out).at_ jj hlt
      have HC := hid hc
      clear hc
      go_wp2_with (first
        | (refine wpList_load26 rfl (.tmp 14) rfl b (o + jj * 6) rfl (cs jj) HC.out ?_)
        | (refine (HF.out jj hlt _ BW.out).mono ?_; rintro e w2 ⟨rfl, hb2⟩; have HB := hid hb2; clear hb2))
      go_roundw
      case rel => exact ⟨jj + 1, by go_num, by omega, BW.out.trans (HB.out.mono BW.out.size)⟩
      case measure => simp [intOf]; omega
    · go_wp2_with (fail)
      go_ret
      exact ⟨rfl, BW.out⟩

set_option maxRecDepth 100000 in
theorem containsFunc_none {w : World} {la : Option Addr} {lc : Nat} {l : List V} {cs : Nat → Nat → Value} (F : Nat) (hE : Enters F) (h : Lst w la lc l cs) (hF : SaysNo F w l cs) :
    Calls Tryz.prog 35 #[.slice la l.length lc, .func (.func F) #[] #[]] w (BoolPost false w) := by
  have H := hid (indexFunc_none F hE h hF)
  clear h hF
  go_enter Tryz.func35, Tryz.ntmps35
  go_wp2_with (go_at_call 45; refine H.out.mono ?_; rintro e w2 ⟨rfl, hb2⟩; have HB := hid hb2; clear hb2)
  go_ret
  exact ⟨rfl, HB.out⟩

set_option maxRecDepth 100000 in
set_option maxHeartbeats 1000000 in
theorem big_any (n : Nat) : ∀ (t : V) (v : Value) (w : World), SizeOf.sizeOf t ≤ n → Rep w v t → Fine t → Calls Tryz.prog 28 #[v] w (BoolPost false w) := by
  induction n with
  | zero => intro t v w hn; cases t; simp at hn
  | succ n ih =>
    intro t v w hn hrep hf
    have hk6 : (t.k == 6) = false := by have := fine_kind hf; simp; omega
    have helem : ∀ j (hj : j < t.l.length), Fine t.l[j] := fun j hj => by
      exact fine_elem hf j hj
    obtain ⟨la, ka, lc, kc, cs, ho⟩ := hrep.open_
    obtain rfl := ho.eq
    have hb0 := (Below.refl w.heap.size w).alloc (Nat.le_refl _) (.cells #[Value.int .i64 t.k, .int .i64 t.n, .float .f64 t.f, .string t.s, .slice la t.l.length lc, .slice ka t.keys.length kc] 26)
    have hL := (ho.kept hb0).toLst
    have hN : Hid (SaysNo 28 (w.alloc (.cells #[Value.int .i64 t.k, .int .i64 t.n, .float .f64 t.f, .string t.s, .slice la t.l.length lc, .slice ka t.keys.length kc] 26)) t.l cs) := hid fun j hj w' hb =>
      ih t.l[j] _ w' (by have := V.l_lt (t := t) (List.getElem_mem hj); omega) ((hL.rep j hj).kept hb) (helem j hj)
    have HL := hid hL
    have HB0 := hid hb0
    clear hL hb0 ho hrep helem hf
    go_enter Tryz.func28, Tryz.ntmps28
    go_wp2_with (go_at_call 35; refine (containsFunc_none 28 enters22 HL.out hN.out).mono ?_; rintro e w2 ⟨rfl, hb2⟩; have HB := hid hb2; clear hb2)
    go_ret
    exact ⟨rfl, HB0.out.trans (HB.out.mono HB0.out.size)⟩
end Go.Proofs.YtonnmongipaheaaGreatDoor
